/-
  THE WALK OF feed.
-/
import Derived.Test.Qxb6603984aModsStart
import Derived.Deep.RegionHeld3
namespace Go.Proofs.Qxb6603984aMods
open Go.RowKit Plain

/-- What is known of the next quote, the next backslash: it has been passed; or it is the first at or after k. -/
def Qok (xs : List Int) (v : Int) (k : Nat) (Q : Int) : Prop := Q ≤ xs.length ∧ -1 ≤ Q ∧ (Q < k ∨ Q = idxFrom xs k v)

theorem Qok.later {xs : List Int} {v : Int} {k k' : Nat} {Q : Int} (h : Qok xs v k Q) (h1 : k ≤ k') (h2 : k' ≤ xs.length) : Qok xs v k' Q := by
  obtain ⟨a, b, c⟩ := h
  refine ⟨a, b, ?_⟩
  rcases c with c | c
  · left; omega
  · by_cases hlt : Q < k'
    · exact .inl hlt
    · right
      rw [idxFrom_later xs k k' v h1 (by omega) (by omega)]
      exact c

theorem Qok.now {xs : List Int} {v : Int} {k : Nat} (h : k ≤ xs.length) : Qok xs v k (idxFrom xs k v) := by
  have := idxFrom_le xs k v h
  exact ⟨by omega, by omega, .inr rfl⟩

theorem ScanAt.drew {w : World} {sb : Nat} {ka : Option Addr} {kc : Nat} {ra : Option Addr} {rc : Nat} {S : Sc} (h : ScanAt w sb ka kc ra rc S) : ScanAt w.drew sb ka kc ra rc S :=
  ⟨h.cells, h.key.same (fun _ _ => rfl), h.raw.same (fun _ _ => rfl), h.apart⟩

theorem Frm.drew {w w' : World} {sb : Nat} {ka ra ka' ra' : Option Addr} (h : Frm w sb ka ra w' ka' ra') : Frm w sb ka ra w'.drew ka' ra' := ⟨h.only.drew, h.key, h.raw⟩

theorem sw_def_no (S : Sc) (x : Int) (h1 : ¬ x = 34) (h2 : ¬ x = 123) (h3 : ¬ x = 91) (h4 : ¬ x = 125) (h5 : ¬ x = 93) (h6 : ¬ x = 58) (h7 : ¬ x = 44) (hI : S.inID = false) : swV S x = S := by
  obtain ⟨depth, str, esc, pos, inKey, key, inID, raw, method⟩ := S
  simp only at hI
  subst hI
  simp [swV, h1, h2, h3, h4, h5, h6, h7]

theorem sw_def_yes (S : Sc) (x : Int) (h1 : ¬ x = 34) (h2 : ¬ x = 123) (h3 : ¬ x = 91) (h4 : ¬ x = 125) (h5 : ¬ x = 93) (h6 : ¬ x = 58) (h7 : ¬ x = 44) (hI : S.inID = true) : swV S x = { S with raw := upL S.raw x 64 } := by
  simp [swV, h1, h2, h3, h4, h5, h6, h7, hI]

theorem case3 (a b c : Bool) (h : a = true ∨ b = true ∨ c = true) : a = true ∨ (a = false ∧ b = true) ∨ (a = false ∧ b = false ∧ c = true) := by cases a <;> cases b <;> cases c <;> simp_all

theorem case3n (a b c : Bool) (h : ¬ (a = true ∨ b = true ∨ c = true)) : a = false ∧ b = false ∧ c = false := by cases a <;> cases b <;> cases c <;> simp_all

set_option maxHeartbeats 4000000 in
set_option maxRecDepth 100000 in
theorem feed_some (w : World) (sb : Nat) (ka : Option Addr) (kc : Nat) (ra : Option Addr) (rc : Nat) (S0 : Sc) (h : ScanAt w sb ka kc ra rc S0)
    (pb off c : Nat) (xs : List Int) (hl : xs.length ≤ 1048576) (hn : xs.length ≤ c) (hw : ∀ x ∈ xs, 0 ≤ x ∧ x ≤ 255)
    (hpc : ∀ j, j < xs.length → w.cell? ⟨pb, off + j, none⟩ = some (.int .u8 (xs.getD j 0))) (hpf : ¬ Foot sb ka ra pb) (hpw : pb < w.heap.size) :
    Calls Trym.prog 26 #[.pointer (some ⟨sb, 0, none⟩), .slice (some ⟨pb, off, none⟩) xs.length c] w fun e w' => e = .returned (.tuple #[]) ∧ Doing w sb ka ra (feedL S0 xs) w' := by
  have HP : Hid (∀ wr ka' ra', Frm w sb ka ra wr ka' ra' → ∀ j, j < xs.length → wr.cell? ⟨pb, off + j, none⟩ = some (.int .u8 (xs.getD j 0))) := by
    intro wr ka' ra' hf j hj
    rw [World.cell?_of_block (w := w) (hf.only.block pb hpw hpf)]
    exact hpc j hj
  have HW := hide hw
  have H0 := hide h
  clear hpc hpf hpw hw h
  go_enter Trym.func26, Trym.ntmps26
  go_wp2
  go_loopw [4, 5, 6] (fun q b i wr => ∃ (k : Nat) (Q B : Int) (S : Sc) (ka' : Option Addr) (kc' : Nat) (ra' : Option Addr) (rc' : Nat), q = .int .i64 Q ∧ b = .int .i64 B ∧ i = .int .i64 k ∧ k ≤ xs.length ∧
      Hid (Qok xs 34 k Q) ∧ Hid (Qok xs 92 k B) ∧ Hid (S = feedL S0 (xs.take k)) ∧ Hid (ScanAt wr sb ka' kc' ra' rc' S) ∧ Hid (Frm w sb ka ra wr ka' ra')) (fun _ _ i _ => xs.length - (intOf i).toNat)
  case atStart => exact ⟨0, -1, -1, S0, ka, kc, ra, rc, rfl, rfl, rfl, Nat.zero_le _, ⟨by omega, by omega, .inl (by omega)⟩, ⟨by omega, by omega, .inl (by omega)⟩, rfl, H0.out, Frm.refl _ _ _ _⟩
  case round =>
    obtain ⟨k, Q, B, S, ka', kc', ra', rc', rfl, rfl, rfl, hk, hQ, hB, hS, hst, hfr⟩ := hrel
    by_cases hlt : k < xs.length
    · obtain ⟨x, hx⟩ : ∃ x, x = xs.getD k 0 := ⟨_, rfl⟩
      have hpk := HP.out wr ka' ra' hfr.out k hlt
      rw [← hx] at hpk
      have HX := hide hx
      have HSTEP : Hid (Plain.step S x = feedL S0 (xs.take (k + 1))) := by
        show _ = _
        rw [take_succ_getD xs k hlt, feedL_snoc, ← hS.out, ← hx]
      clear hx
      obtain ⟨hcell, hfroz⟩ := told hst.out.cells
      simp only [fld] at hcell
      rcases Bool.eq_false_or_eq_true S.str with hstr | hstr
      · -- within a string
        have HE : Hid (Plain.step S x = inStr S x) := by show _ = _; simp [Plain.step, hstr]
        as_aux_lemma =>
          by_cases hplain : S.inKey = true ∨ S.inID = true ∨ S.esc = true
          · have hcase := case3 _ _ _ hplain
            clear hplain
            rcases hcase with h1 | ⟨h1, h2⟩ | ⟨h1, h2, h3⟩
            · simp only [hstr, h1] at hcell
              go_wp2_with fail
              refine (instr_any wr sb ka' kc' ra' rc' S x hst.out).mono ?_
              rintro e w1 ⟨rfl, ka2, kc2, ra2, rc2, st2, fr2⟩
              have ST2 := hide st2
              have FR2 := hide fr2
              clear st2 fr2 hcell hfroz
              go_wp2
              go_roundw
              case rel => exact ⟨k + 1, Q, B, inStr S x, ka2, kc2, ra2, rc2, rfl, rfl, by go_num, by omega, hQ.out.later (by omega) (by omega), hB.out.later (by omega) (by omega), HE.out.symm.trans HSTEP.out, ST2.out, hfr.out.trans FR2.out⟩
              case measure => simp [intOf]; omega
            · simp only [hstr, h1, h2] at hcell
              go_wp2_with fail
              refine (instr_any wr sb ka' kc' ra' rc' S x hst.out).mono ?_
              rintro e w1 ⟨rfl, ka2, kc2, ra2, rc2, st2, fr2⟩
              have ST2 := hide st2
              have FR2 := hide fr2
              clear st2 fr2 hcell hfroz
              go_wp2
              go_roundw
              case rel => exact ⟨k + 1, Q, B, inStr S x, ka2, kc2, ra2, rc2, rfl, rfl, by go_num, by omega, hQ.out.later (by omega) (by omega), hB.out.later (by omega) (by omega), HE.out.symm.trans HSTEP.out, ST2.out, hfr.out.trans FR2.out⟩
              case measure => simp [intOf]; omega
            · simp only [hstr, h1, h2, h3] at hcell
              go_wp2_with fail
              refine (instr_any wr sb ka' kc' ra' rc' S x hst.out).mono ?_
              rintro e w1 ⟨rfl, ka2, kc2, ra2, rc2, st2, fr2⟩
              have ST2 := hide st2
              have FR2 := hide fr2
              clear st2 fr2 hcell hfroz
              go_wp2
              go_roundw
              case rel => exact ⟨k + 1, Q, B, inStr S x, ka2, kc2, ra2, rc2, rfl, rfl, by go_num, by omega, hQ.out.later (by omega) (by omega), hB.out.later (by omega) (by omega), HE.out.symm.trans HSTEP.out, ST2.out, hfr.out.trans FR2.out⟩
              case measure => simp [intOf]; omega
          · obtain ⟨h1, h2, h3⟩ := case3n _ _ _ hplain
            clear hplain HE HSTEP
            simp only [hstr, h1, h2, h3] at hcell
            obtain ⟨q, hqd⟩ : ∃ q, q = idxFrom xs k 34 := ⟨_, rfl⟩
            obtain ⟨b, hbd⟩ : ∃ b, b = idxFrom xs k 92 := ⟨_, rfl⟩
            have F34 := from_any pb off c xs k 34 wr hl hn hlt (by omega) HW.out (HP.out wr ka' ra' hfr.out)
            have F92 := from_any pb off c xs k 92 wr hl hn hlt (by omega) HW.out (HP.out wr ka' ra' hfr.out)
            rw [← hqd] at F34
            rw [← hbd] at F92
            have G34 := hide F34
            have G92 := hide F92
            have hq1 : k ≤ q ∧ q ≤ xs.length := by rw [hqd]; exact idxFrom_le xs k 34 hk
            have hb1 : k ≤ b ∧ b ≤ xs.length := by rw [hbd]; exact idxFrom_le xs k 92 hk
            have QN : Hid (∀ j, j ≤ xs.length → k ≤ j → Qok xs 34 j (q : Int)) := fun j hj hkj => by rw [hqd]; exact (Qok.now hk).later hkj hj
            have BN : Hid (∀ j, j ≤ xs.length → k ≤ j → Qok xs 92 j (b : Int)) := fun j hj hkj => by rw [hbd]; exact (Qok.now hk).later hkj hj
            have HJ : Hid (∀ j, k ≤ j → j ≤ q → j ≤ b → j ≤ xs.length → feedL S0 (xs.take j) = S) := fun j a1 a2 a3 a4 =>
              feedL_jump S0 S xs k j hS.out hstr h1 h2 h3 a1 a4 (fun i b1 b2 => ⟨idxFrom_before xs k 34 i b1 (by omega), idxFrom_before xs k 92 i b1 (by omega)⟩)
            have HI : Hid (∀ j, k ≤ j → j ≤ q → j ≤ b → j < xs.length → inStr S (xs.getD j 0) = feedL S0 (xs.take (j + 1))) := fun j a1 a2 a3 a4 => by
              rw [take_succ_getD xs j a4, feedL_snoc, HJ.out j a1 a2 a3 (by omega)]
              simp [Plain.step, hstr]
            have HQ2 : Hid (¬ Q < k → Q = (q : Int)) := fun hn => by
              rcases hQ.out.2.2 with h | h
              · exact absurd h hn
              · rw [hqd]; exact h
            have HB2 : Hid (¬ B < k → B = (b : Int)) := fun hn => by
              rcases hB.out.2.2 with h | h
              · exact absurd h hn
              · rw [hbd]; exact h
            clear F34 F92 hqd hbd
            have hsel : ((q : Int) = (xs.length : Int) ∧ (b : Int) = (xs.length : Int)) ∨ (q < xs.length ∧ q ≤ b) ∨ (b < xs.length ∧ b < q) := by omega
            obtain ⟨hq1, hq2⟩ := hq1
            obtain ⟨hb1, hb2⟩ := hb1
            by_cases hq : Q < k
            · by_cases hb : B < k
              · rcases hsel with ⟨c1, c2⟩ | ⟨c1, c2⟩ | ⟨c1, c2⟩
                · have c1' : q = xs.length := by omega
                  have c2' : b = xs.length := by omega
                  have HEND : Hid (feedL S0 xs = S) := by
                    have := HJ.out xs.length (by omega) (by omega) (by omega) (Nat.le_refl _)
                    rwa [List.take_of_length_le (Nat.le_refl _)] at this
                  clear c1 c2
                  have ceq : ((q : Int) == (xs.length : Int)) = true := by rw [beq_iff_eq]; omega
                  have cle : (q : Int) ≤ (b : Int) := by omega
                  clear c1' c2'
                  go_wp2_with fail
                  refine G34.out.mono ?_
                  rintro e w1 ⟨rfl, rfl⟩
                  go_wp2_with fail
                  refine G92.out.mono ?_
                  rintro e w1 ⟨rfl, rfl⟩
                  go_wp2
                  refine bodyPost_ret (results_none rfl _ _ _) rfl ?_
                  rw [HEND.out]
                  exact ⟨rfl, ka', kc', ra', rc', hst.out, hfr.out⟩
                · obtain ⟨y, hy⟩ : ∃ y, y = xs.getD q 0 := ⟨_, rfl⟩
                  have hpj := HP.out wr ka' ra' hfr.out q c1
                  rw [← hy] at hpj
                  have HN : Hid (inStr S y = feedL S0 (xs.take (q + 1))) := by show _ = _; rw [hy]; exact HI.out q (by omega) (by omega) (by omega) c1
                  clear hy
                  have ceq : ((q : Int) == (xs.length : Int)) = false := by rw [beq_eq_false_iff_ne]; omega
                  have cle : (q : Int) ≤ (b : Int) := by omega
                  go_wp2_with fail
                  refine G34.out.mono ?_
                  rintro e w1 ⟨rfl, rfl⟩
                  go_wp2_with fail
                  refine G92.out.mono ?_
                  rintro e w1 ⟨rfl, rfl⟩
                  go_wp2_with fail
                  refine (instr_any wr sb ka' kc' ra' rc' S y hst.out).mono ?_
                  rintro e w1 ⟨rfl, ka2, kc2, ra2, rc2, st2, fr2⟩
                  have ST2 := hide st2
                  have FR2 := hide fr2
                  clear st2 fr2 hcell hfroz
                  go_wp2
                  go_roundw
                  case rel => exact ⟨q + 1, (q : Int), (b : Int), inStr S y, ka2, kc2, ra2, rc2, rfl, rfl, by go_num, by omega, QN.out _ (by omega) (by omega), BN.out _ (by omega) (by omega), HN.out, ST2.out, hfr.out.trans FR2.out⟩
                  case measure => simp [intOf]; omega
                · obtain ⟨y, hy⟩ : ∃ y, y = xs.getD b 0 := ⟨_, rfl⟩
                  have hpj := HP.out wr ka' ra' hfr.out b c1
                  rw [← hy] at hpj
                  have HN : Hid (inStr S y = feedL S0 (xs.take (b + 1))) := by show _ = _; rw [hy]; exact HI.out b (by omega) (by omega) (by omega) c1
                  clear hy
                  have ceq : ((b : Int) == (xs.length : Int)) = false := by rw [beq_eq_false_iff_ne]; omega
                  have cle : (b : Int) < (q : Int) := by omega
                  go_wp2_with fail
                  refine G34.out.mono ?_
                  rintro e w1 ⟨rfl, rfl⟩
                  go_wp2_with fail
                  refine G92.out.mono ?_
                  rintro e w1 ⟨rfl, rfl⟩
                  go_wp2_with fail
                  refine (instr_any wr sb ka' kc' ra' rc' S y hst.out).mono ?_
                  rintro e w1 ⟨rfl, ka2, kc2, ra2, rc2, st2, fr2⟩
                  have ST2 := hide st2
                  have FR2 := hide fr2
                  clear st2 fr2 hcell hfroz
                  go_wp2
                  go_roundw
                  case rel => exact ⟨b + 1, (q : Int), (b : Int), inStr S y, ka2, kc2, ra2, rc2, rfl, rfl, by go_num, by omega, QN.out _ (by omega) (by omega), BN.out _ (by omega) (by omega), HN.out, ST2.out, hfr.out.trans FR2.out⟩
                  case measure => simp [intOf]; omega
              · obtain rfl := HB2.out hb
                rcases hsel with ⟨c1, c2⟩ | ⟨c1, c2⟩ | ⟨c1, c2⟩
                · have c1' : q = xs.length := by omega
                  have c2' : b = xs.length := by omega
                  have HEND : Hid (feedL S0 xs = S) := by
                    have := HJ.out xs.length (by omega) (by omega) (by omega) (Nat.le_refl _)
                    rwa [List.take_of_length_le (Nat.le_refl _)] at this
                  clear c1 c2
                  have ceq : ((q : Int) == (xs.length : Int)) = true := by rw [beq_iff_eq]; omega
                  have cle : (q : Int) ≤ (b : Int) := by omega
                  clear c1' c2'
                  go_wp2_with fail
                  refine G34.out.mono ?_
                  rintro e w1 ⟨rfl, rfl⟩
                  go_wp2
                  refine bodyPost_ret (results_none rfl _ _ _) rfl ?_
                  rw [HEND.out]
                  exact ⟨rfl, ka', kc', ra', rc', hst.out, hfr.out⟩
                · obtain ⟨y, hy⟩ : ∃ y, y = xs.getD q 0 := ⟨_, rfl⟩
                  have hpj := HP.out wr ka' ra' hfr.out q c1
                  rw [← hy] at hpj
                  have HN : Hid (inStr S y = feedL S0 (xs.take (q + 1))) := by show _ = _; rw [hy]; exact HI.out q (by omega) (by omega) (by omega) c1
                  clear hy
                  have ceq : ((q : Int) == (xs.length : Int)) = false := by rw [beq_eq_false_iff_ne]; omega
                  have cle : (q : Int) ≤ (b : Int) := by omega
                  go_wp2_with fail
                  refine G34.out.mono ?_
                  rintro e w1 ⟨rfl, rfl⟩
                  go_wp2_with fail
                  refine (instr_any wr sb ka' kc' ra' rc' S y hst.out).mono ?_
                  rintro e w1 ⟨rfl, ka2, kc2, ra2, rc2, st2, fr2⟩
                  have ST2 := hide st2
                  have FR2 := hide fr2
                  clear st2 fr2 hcell hfroz
                  go_wp2
                  go_roundw
                  case rel => exact ⟨q + 1, (q : Int), (b : Int), inStr S y, ka2, kc2, ra2, rc2, rfl, rfl, by go_num, by omega, QN.out _ (by omega) (by omega), BN.out _ (by omega) (by omega), HN.out, ST2.out, hfr.out.trans FR2.out⟩
                  case measure => simp [intOf]; omega
                · obtain ⟨y, hy⟩ : ∃ y, y = xs.getD b 0 := ⟨_, rfl⟩
                  have hpj := HP.out wr ka' ra' hfr.out b c1
                  rw [← hy] at hpj
                  have HN : Hid (inStr S y = feedL S0 (xs.take (b + 1))) := by show _ = _; rw [hy]; exact HI.out b (by omega) (by omega) (by omega) c1
                  clear hy
                  have ceq : ((b : Int) == (xs.length : Int)) = false := by rw [beq_eq_false_iff_ne]; omega
                  have cle : (b : Int) < (q : Int) := by omega
                  go_wp2_with fail
                  refine G34.out.mono ?_
                  rintro e w1 ⟨rfl, rfl⟩
                  go_wp2_with fail
                  refine (instr_any wr sb ka' kc' ra' rc' S y hst.out).mono ?_
                  rintro e w1 ⟨rfl, ka2, kc2, ra2, rc2, st2, fr2⟩
                  have ST2 := hide st2
                  have FR2 := hide fr2
                  clear st2 fr2 hcell hfroz
                  go_wp2
                  go_roundw
                  case rel => exact ⟨b + 1, (q : Int), (b : Int), inStr S y, ka2, kc2, ra2, rc2, rfl, rfl, by go_num, by omega, QN.out _ (by omega) (by omega), BN.out _ (by omega) (by omega), HN.out, ST2.out, hfr.out.trans FR2.out⟩
                  case measure => simp [intOf]; omega
            · obtain rfl := HQ2.out hq
              by_cases hb : B < k
              · rcases hsel with ⟨c1, c2⟩ | ⟨c1, c2⟩ | ⟨c1, c2⟩
                · have c1' : q = xs.length := by omega
                  have c2' : b = xs.length := by omega
                  have HEND : Hid (feedL S0 xs = S) := by
                    have := HJ.out xs.length (by omega) (by omega) (by omega) (Nat.le_refl _)
                    rwa [List.take_of_length_le (Nat.le_refl _)] at this
                  clear c1 c2
                  have ceq : ((q : Int) == (xs.length : Int)) = true := by rw [beq_iff_eq]; omega
                  have cle : (q : Int) ≤ (b : Int) := by omega
                  clear c1' c2'
                  go_wp2_with fail
                  refine G92.out.mono ?_
                  rintro e w1 ⟨rfl, rfl⟩
                  go_wp2
                  refine bodyPost_ret (results_none rfl _ _ _) rfl ?_
                  rw [HEND.out]
                  exact ⟨rfl, ka', kc', ra', rc', hst.out, hfr.out⟩
                · obtain ⟨y, hy⟩ : ∃ y, y = xs.getD q 0 := ⟨_, rfl⟩
                  have hpj := HP.out wr ka' ra' hfr.out q c1
                  rw [← hy] at hpj
                  have HN : Hid (inStr S y = feedL S0 (xs.take (q + 1))) := by show _ = _; rw [hy]; exact HI.out q (by omega) (by omega) (by omega) c1
                  clear hy
                  have ceq : ((q : Int) == (xs.length : Int)) = false := by rw [beq_eq_false_iff_ne]; omega
                  have cle : (q : Int) ≤ (b : Int) := by omega
                  go_wp2_with fail
                  refine G92.out.mono ?_
                  rintro e w1 ⟨rfl, rfl⟩
                  go_wp2_with fail
                  refine (instr_any wr sb ka' kc' ra' rc' S y hst.out).mono ?_
                  rintro e w1 ⟨rfl, ka2, kc2, ra2, rc2, st2, fr2⟩
                  have ST2 := hide st2
                  have FR2 := hide fr2
                  clear st2 fr2 hcell hfroz
                  go_wp2
                  go_roundw
                  case rel => exact ⟨q + 1, (q : Int), (b : Int), inStr S y, ka2, kc2, ra2, rc2, rfl, rfl, by go_num, by omega, QN.out _ (by omega) (by omega), BN.out _ (by omega) (by omega), HN.out, ST2.out, hfr.out.trans FR2.out⟩
                  case measure => simp [intOf]; omega
                · obtain ⟨y, hy⟩ : ∃ y, y = xs.getD b 0 := ⟨_, rfl⟩
                  have hpj := HP.out wr ka' ra' hfr.out b c1
                  rw [← hy] at hpj
                  have HN : Hid (inStr S y = feedL S0 (xs.take (b + 1))) := by show _ = _; rw [hy]; exact HI.out b (by omega) (by omega) (by omega) c1
                  clear hy
                  have ceq : ((b : Int) == (xs.length : Int)) = false := by rw [beq_eq_false_iff_ne]; omega
                  have cle : (b : Int) < (q : Int) := by omega
                  go_wp2_with fail
                  refine G92.out.mono ?_
                  rintro e w1 ⟨rfl, rfl⟩
                  go_wp2_with fail
                  refine (instr_any wr sb ka' kc' ra' rc' S y hst.out).mono ?_
                  rintro e w1 ⟨rfl, ka2, kc2, ra2, rc2, st2, fr2⟩
                  have ST2 := hide st2
                  have FR2 := hide fr2
                  clear st2 fr2 hcell hfroz
                  go_wp2
                  go_roundw
                  case rel => exact ⟨b + 1, (q : Int), (b : Int), inStr S y, ka2, kc2, ra2, rc2, rfl, rfl, by go_num, by omega, QN.out _ (by omega) (by omega), BN.out _ (by omega) (by omega), HN.out, ST2.out, hfr.out.trans FR2.out⟩
                  case measure => simp [intOf]; omega
              · obtain rfl := HB2.out hb
                rcases hsel with ⟨c1, c2⟩ | ⟨c1, c2⟩ | ⟨c1, c2⟩
                · have c1' : q = xs.length := by omega
                  have c2' : b = xs.length := by omega
                  have HEND : Hid (feedL S0 xs = S) := by
                    have := HJ.out xs.length (by omega) (by omega) (by omega) (Nat.le_refl _)
                    rwa [List.take_of_length_le (Nat.le_refl _)] at this
                  clear c1 c2
                  have ceq : ((q : Int) == (xs.length : Int)) = true := by rw [beq_iff_eq]; omega
                  have cle : (q : Int) ≤ (b : Int) := by omega
                  clear c1' c2'
                  go_wp2
                  refine bodyPost_ret (results_none rfl _ _ _) rfl ?_
                  rw [HEND.out]
                  exact ⟨rfl, ka', kc', ra', rc', hst.out, hfr.out⟩
                · obtain ⟨y, hy⟩ : ∃ y, y = xs.getD q 0 := ⟨_, rfl⟩
                  have hpj := HP.out wr ka' ra' hfr.out q c1
                  rw [← hy] at hpj
                  have HN : Hid (inStr S y = feedL S0 (xs.take (q + 1))) := by show _ = _; rw [hy]; exact HI.out q (by omega) (by omega) (by omega) c1
                  clear hy
                  have ceq : ((q : Int) == (xs.length : Int)) = false := by rw [beq_eq_false_iff_ne]; omega
                  have cle : (q : Int) ≤ (b : Int) := by omega
                  go_wp2_with fail
                  refine (instr_any wr sb ka' kc' ra' rc' S y hst.out).mono ?_
                  rintro e w1 ⟨rfl, ka2, kc2, ra2, rc2, st2, fr2⟩
                  have ST2 := hide st2
                  have FR2 := hide fr2
                  clear st2 fr2 hcell hfroz
                  go_wp2
                  go_roundw
                  case rel => exact ⟨q + 1, (q : Int), (b : Int), inStr S y, ka2, kc2, ra2, rc2, rfl, rfl, by go_num, by omega, QN.out _ (by omega) (by omega), BN.out _ (by omega) (by omega), HN.out, ST2.out, hfr.out.trans FR2.out⟩
                  case measure => simp [intOf]; omega
                · obtain ⟨y, hy⟩ : ∃ y, y = xs.getD b 0 := ⟨_, rfl⟩
                  have hpj := HP.out wr ka' ra' hfr.out b c1
                  rw [← hy] at hpj
                  have HN : Hid (inStr S y = feedL S0 (xs.take (b + 1))) := by show _ = _; rw [hy]; exact HI.out b (by omega) (by omega) (by omega) c1
                  clear hy
                  have ceq : ((b : Int) == (xs.length : Int)) = false := by rw [beq_eq_false_iff_ne]; omega
                  have cle : (b : Int) < (q : Int) := by omega
                  go_wp2_with fail
                  refine (instr_any wr sb ka' kc' ra' rc' S y hst.out).mono ?_
                  rintro e w1 ⟨rfl, ka2, kc2, ra2, rc2, st2, fr2⟩
                  have ST2 := hide st2
                  have FR2 := hide fr2
                  clear st2 fr2 hcell hfroz
                  go_wp2
                  go_roundw
                  case rel => exact ⟨b + 1, (q : Int), (b : Int), inStr S y, ka2, kc2, ra2, rc2, rfl, rfl, by go_num, by omega, QN.out _ (by omega) (by omega), BN.out _ (by omega) (by omega), HN.out, ST2.out, hfr.out.trans FR2.out⟩
                  case measure => simp [intOf]; omega
      · -- outside a string
        have HE : Hid (Plain.step S x = swV (preV S x) x) := by show _ = _; simp [Plain.step, hstr]
        by_cases hpre : S.pos = 3 ∧ x ≠ 32 ∧ x ≠ 9 ∧ x ≠ 10 ∧ x ≠ 13
        · obtain ⟨hp3, n1, n2, n3, n4⟩ := hpre
          have b1 : (x != 32) = true := by rw [bne_iff_ne]; exact n1
          have b2 : (x != 9) = true := by rw [bne_iff_ne]; exact n2
          have b3 : (x != 10) = true := by rw [bne_iff_ne]; exact n3
          have b4 : (x != 13) = true := by rw [bne_iff_ne]; exact n4
          have HSW0 : Hid (swV (startV S x) x = feedL S0 (xs.take (k + 1))) := by
            show _ = _
            rw [← HSTEP.out, HE.out]
            simp [preV, hp3, n1, n2, n3, n4]
          have HP4 : Hid ((startV S x).pos = 4) := by show _ = _; unfold startV; split <;> rfl
          clear n1 n2 n3 n4 HE HSTEP
          simp only [hstr, hp3] at hcell
          go_wp2_with fail
          refine (start_any wr sb ka' kc' ra' rc' S x hst.out).mono ?_
          rintro e w1 ⟨rfl, ka1, kc1, ra1, rc1, st1, fr1⟩
          have hp4 := HP4.out
          have HSW := HSW0
          clear HP4 HSW0
          generalize startV S x = S1 at st1 hp4 HSW
          have ST1 := hide st1
          have FR1 := hide (hfr.out.trans fr1)
          clear hcell hfroz
          obtain ⟨hcell, hfroz⟩ := told st1.cells
          simp only [fld] at hcell
          clear st1 fr1 b1 b2 b3 b4 hp3 hstr
          as_aux_lemma =>
            by_cases hx1 : x = 34
            · subst hx1
              rcases Bool.eq_false_or_eq_true S1.inID with hI | hI
              · have hpos : ¬ S1.pos = 1 := by rw [hp4]; decide
                have e : Hid (swV S1 34 = { S1 with str := true, raw := upL S1.raw 34 64 }) := by show _ = _; simp [swV, hI, hpos]
                simp only [hI, hp4] at hcell
                have hposb : (S1.pos == 1) = false := by rw [beq_eq_false_iff_ne]; exact hpos
                have s1 := hide (ST1.out.store 1 (.bool true) { S1 with str := true } rfl rfl rfl)
                go_wp2_with fail
                refine (upto_any ra1 rc1 S1.raw 34 64 64 rfl _ s1.out.raw (by decide)).mono ?_
                rintro e' w2 ⟨ra3, rc3, rfl, o2, g2, n2⟩
                obtain ⟨hcell2, hfroz2⟩ := told (s1.out.keepRaw g2)
                have M := hide (s1.out.newRaw g2 o2 n2)
                simp only [fld, hI] at hcell2
                clear o2 g2 n2 hcell hfroz
                go_wp2
                go_roundw
                case rel => exact ⟨k + 1, Q, B, { S1 with str := true, raw := upL S1.raw 34 64 }, ka1, kc1, ra3, rc3, rfl, rfl, by go_num, by omega, hQ.out.later (by omega) (by omega), hB.out.later (by omega) (by omega), e.out.symm.trans HSW.out, M.out.1, ((FR1.out.trans (ScanAt.frm_store _ _ _ _ _ _)).trans M.out.2)⟩
                case measure => simp [intOf]; omega
              · have hpos : ¬ S1.pos = 1 := by rw [hp4]; decide
                have e : Hid (swV S1 34 = { S1 with str := true }) := by show _ = _; simp [swV, hI, hpos]
                simp only [hI, hp4] at hcell
                have hposb : (S1.pos == 1) = false := by rw [beq_eq_false_iff_ne]; exact hpos
                have s1 := hide (ST1.out.store 1 (.bool true) { S1 with str := true } rfl rfl rfl)
                go_wp2
                go_roundw
                case rel => exact ⟨k + 1, Q, B, { S1 with str := true }, ka1, kc1, ra1, rc1, rfl, rfl, by go_num, by omega, hQ.out.later (by omega) (by omega), hB.out.later (by omega) (by omega), e.out.symm.trans HSW.out, s1.out, (FR1.out.trans (ScanAt.frm_store _ _ _ _ _ _))⟩
                case measure => simp [intOf]; omega
            by_cases hx123 : x = 123
            · subst hx123
              by_cases hd : wrap64 (S1.depth + 1) = 1
              · have e : Hid (swV S1 123 = { S1 with depth := wrap64 (S1.depth + 1), pos := 1 }) := by show _ = _; simp [swV, hd]
                simp only [hp4] at hcell
                have hdb : (wrap64 (S1.depth + 1) == 1) = true := by rw [beq_iff_eq]; exact hd
                clear hd
                go_wp2
                go_roundw
                case rel => exact ⟨k + 1, Q, B, { S1 with depth := wrap64 (S1.depth + 1), pos := 1 }, ka1, kc1, ra1, rc1, rfl, rfl, by go_num, by omega, hQ.out.later (by omega) (by omega), hB.out.later (by omega) (by omega), e.out.symm.trans HSW.out, ((ST1.out.store 0 (.int .i64 (wrap64 (S1.depth + 1))) { S1 with depth := wrap64 (S1.depth + 1) } rfl rfl rfl).store 3 (.int .i64 1) _ rfl rfl rfl), ((FR1.out.trans (ScanAt.frm_store _ _ _ _ _ _)).trans (ScanAt.frm_store _ _ _ _ _ _))⟩
                case measure => simp [intOf]; omega
              · have e : Hid (swV S1 123 = { S1 with depth := wrap64 (S1.depth + 1) }) := by show _ = _; simp [swV, hd]
                simp only [hp4] at hcell
                have hdb : (wrap64 (S1.depth + 1) == 1) = false := by rw [beq_eq_false_iff_ne]; exact hd
                clear hd
                go_wp2
                go_roundw
                case rel => exact ⟨k + 1, Q, B, { S1 with depth := wrap64 (S1.depth + 1) }, ka1, kc1, ra1, rc1, rfl, rfl, by go_num, by omega, hQ.out.later (by omega) (by omega), hB.out.later (by omega) (by omega), e.out.symm.trans HSW.out, (ST1.out.store 0 (.int .i64 (wrap64 (S1.depth + 1))) { S1 with depth := wrap64 (S1.depth + 1) } rfl rfl rfl), (FR1.out.trans (ScanAt.frm_store _ _ _ _ _ _))⟩
                case measure => simp [intOf]; omega
            by_cases hx91 : x = 91
            · subst hx91
              by_cases hd : wrap64 (S1.depth + 1) = 1
              · have e : Hid (swV S1 91 = { S1 with depth := wrap64 (S1.depth + 1), pos := 1 }) := by show _ = _; simp [swV, hd]
                simp only [hp4] at hcell
                have hdb : (wrap64 (S1.depth + 1) == 1) = true := by rw [beq_iff_eq]; exact hd
                clear hd
                go_wp2
                go_roundw
                case rel => exact ⟨k + 1, Q, B, { S1 with depth := wrap64 (S1.depth + 1), pos := 1 }, ka1, kc1, ra1, rc1, rfl, rfl, by go_num, by omega, hQ.out.later (by omega) (by omega), hB.out.later (by omega) (by omega), e.out.symm.trans HSW.out, ((ST1.out.store 0 (.int .i64 (wrap64 (S1.depth + 1))) { S1 with depth := wrap64 (S1.depth + 1) } rfl rfl rfl).store 3 (.int .i64 1) _ rfl rfl rfl), ((FR1.out.trans (ScanAt.frm_store _ _ _ _ _ _)).trans (ScanAt.frm_store _ _ _ _ _ _))⟩
                case measure => simp [intOf]; omega
              · have e : Hid (swV S1 91 = { S1 with depth := wrap64 (S1.depth + 1) }) := by show _ = _; simp [swV, hd]
                simp only [hp4] at hcell
                have hdb : (wrap64 (S1.depth + 1) == 1) = false := by rw [beq_eq_false_iff_ne]; exact hd
                clear hd
                go_wp2
                go_roundw
                case rel => exact ⟨k + 1, Q, B, { S1 with depth := wrap64 (S1.depth + 1) }, ka1, kc1, ra1, rc1, rfl, rfl, by go_num, by omega, hQ.out.later (by omega) (by omega), hB.out.later (by omega) (by omega), e.out.symm.trans HSW.out, (ST1.out.store 0 (.int .i64 (wrap64 (S1.depth + 1))) { S1 with depth := wrap64 (S1.depth + 1) } rfl rfl rfl), (FR1.out.trans (ScanAt.frm_store _ _ _ _ _ _))⟩
                case measure => simp [intOf]; omega
            by_cases hx125 : x = 125
            · subst hx125
              have e : Hid (swV S1 125 = { S1 with depth := wrap64 (S1.depth - 1) }) := by show _ = _; simp [swV]
              simp only [hp4] at hcell
              go_wp2
              go_roundw
              case rel => exact ⟨k + 1, Q, B, { S1 with depth := wrap64 (S1.depth - 1) }, ka1, kc1, ra1, rc1, rfl, rfl, by go_num, by omega, hQ.out.later (by omega) (by omega), hB.out.later (by omega) (by omega), e.out.symm.trans HSW.out, (ST1.out.store 0 (.int .i64 (wrap64 (S1.depth - 1))) _ rfl rfl rfl), (FR1.out.trans (ScanAt.frm_store _ _ _ _ _ _))⟩
              case measure => simp [intOf]; omega
            by_cases hx93 : x = 93
            · subst hx93
              have e : Hid (swV S1 93 = { S1 with depth := wrap64 (S1.depth - 1) }) := by show _ = _; simp [swV]
              simp only [hp4] at hcell
              go_wp2
              go_roundw
              case rel => exact ⟨k + 1, Q, B, { S1 with depth := wrap64 (S1.depth - 1) }, ka1, kc1, ra1, rc1, rfl, rfl, by go_num, by omega, hQ.out.later (by omega) (by omega), hB.out.later (by omega) (by omega), e.out.symm.trans HSW.out, (ST1.out.store 0 (.int .i64 (wrap64 (S1.depth - 1))) _ rfl rfl rfl), (FR1.out.trans (ScanAt.frm_store _ _ _ _ _ _))⟩
              case measure => simp [intOf]; omega
            by_cases hx58 : x = 58
            · subst hx58
              have hpos : ¬ S1.pos = 2 := by rw [hp4]; decide
              have e : Hid (swV S1 58 = S1) := by show _ = _; simp [swV, hpos]
              simp only [hp4] at hcell
              have hposb : (S1.pos == 2) = false := by rw [beq_eq_false_iff_ne]; exact hpos
              go_wp2
              go_roundw
              case rel => exact ⟨k + 1, Q, B, S1, ka1, kc1, ra1, rc1, rfl, rfl, by go_num, by omega, hQ.out.later (by omega) (by omega), hB.out.later (by omega) (by omega), e.out.symm.trans HSW.out, ST1.out, FR1.out⟩
              case measure => simp [intOf]; omega
            by_cases hx44 : x = 44
            · subst hx44
              by_cases hd : S1.depth = 1
              · have e : Hid (swV S1 44 = { S1 with inID := false, pos := 1 }) := by show _ = _; simp [swV, hd]
                simp only [hp4] at hcell
                have hdb : (S1.depth == 1) = true := by rw [beq_iff_eq]; exact hd
                clear hd
                go_wp2
                go_roundw
                case rel => exact ⟨k + 1, Q, B, { S1 with inID := false, pos := 1 }, ka1, kc1, ra1, rc1, rfl, rfl, by go_num, by omega, hQ.out.later (by omega) (by omega), hB.out.later (by omega) (by omega), e.out.symm.trans HSW.out, ((ST1.out.store 6 (.bool false) { S1 with inID := false } rfl rfl rfl).store 3 (.int .i64 1) _ rfl rfl rfl), ((FR1.out.trans (ScanAt.frm_store _ _ _ _ _ _)).trans (ScanAt.frm_store _ _ _ _ _ _))⟩
                case measure => simp [intOf]; omega
              · have e : Hid (swV S1 44 = { S1 with inID := false }) := by show _ = _; simp [swV, hd]
                simp only [hp4] at hcell
                have hdb : (S1.depth == 1) = false := by rw [beq_eq_false_iff_ne]; exact hd
                clear hd
                go_wp2
                go_roundw
                case rel => exact ⟨k + 1, Q, B, { S1 with inID := false }, ka1, kc1, ra1, rc1, rfl, rfl, by go_num, by omega, hQ.out.later (by omega) (by omega), hB.out.later (by omega) (by omega), e.out.symm.trans HSW.out, (ST1.out.store 6 (.bool false) { S1 with inID := false } rfl rfl rfl), (FR1.out.trans (ScanAt.frm_store _ _ _ _ _ _))⟩
                case measure => simp [intOf]; omega
            rcases Bool.eq_false_or_eq_true S1.inID with hI | hI
            · have e : Hid (swV S1 x = { S1 with raw := upL S1.raw x 64 }) := sw_def_yes S1 x hx1 hx123 hx91 hx125 hx93 hx58 hx44 hI
              have y34 : (x == 34) = false := by rw [beq_eq_false_iff_ne]; exact hx1
              have y123 : (x == 123) = false := by rw [beq_eq_false_iff_ne]; exact hx123
              have y91 : (x == 91) = false := by rw [beq_eq_false_iff_ne]; exact hx91
              have y125 : (x == 125) = false := by rw [beq_eq_false_iff_ne]; exact hx125
              have y93 : (x == 93) = false := by rw [beq_eq_false_iff_ne]; exact hx93
              have y58 : (x == 58) = false := by rw [beq_eq_false_iff_ne]; exact hx58
              have y44 : (x == 44) = false := by rw [beq_eq_false_iff_ne]; exact hx44
              simp only [hI, hp4] at hcell
              go_wp2_with fail
              refine (upto_any ra1 rc1 S1.raw x 64 64 rfl _ ST1.out.raw (by decide)).mono ?_
              rintro e' w2 ⟨ra3, rc3, rfl, o2, g2, n2⟩
              obtain ⟨hcell2, hfroz2⟩ := told (ST1.out.keepRaw g2)
              have M := hide (ST1.out.newRaw g2 o2 n2)
              simp only [fld, hI, hp4] at hcell2
              clear o2 g2 n2 hcell hfroz
              go_wp2
              go_roundw
              case rel => exact ⟨k + 1, Q, B, { S1 with raw := upL S1.raw x 64 }, ka1, kc1, ra3, rc3, rfl, rfl, by go_num, by omega, hQ.out.later (by omega) (by omega), hB.out.later (by omega) (by omega), e.out.symm.trans HSW.out, M.out.1, (FR1.out.trans M.out.2)⟩
              case measure => simp [intOf]; omega
            · have e : Hid (swV S1 x = S1) := sw_def_no S1 x hx1 hx123 hx91 hx125 hx93 hx58 hx44 hI
              have y34 : (x == 34) = false := by rw [beq_eq_false_iff_ne]; exact hx1
              have y123 : (x == 123) = false := by rw [beq_eq_false_iff_ne]; exact hx123
              have y91 : (x == 91) = false := by rw [beq_eq_false_iff_ne]; exact hx91
              have y125 : (x == 125) = false := by rw [beq_eq_false_iff_ne]; exact hx125
              have y93 : (x == 93) = false := by rw [beq_eq_false_iff_ne]; exact hx93
              have y58 : (x == 58) = false := by rw [beq_eq_false_iff_ne]; exact hx58
              have y44 : (x == 44) = false := by rw [beq_eq_false_iff_ne]; exact hx44
              simp only [hI, hp4] at hcell
              go_wp2
              go_roundw
              case rel => exact ⟨k + 1, Q, B, S1, ka1, kc1, ra1, rc1, rfl, rfl, by go_num, by omega, hQ.out.later (by omega) (by omega), hB.out.later (by omega) (by omega), e.out.symm.trans HSW.out, ST1.out, FR1.out⟩
              case measure => simp [intOf]; omega
        · by_cases hp3 : S.pos = 3
          · have hws : x = 32 ∨ x = 9 ∨ x = 10 ∨ x = 13 := by omega
            have HSW : Hid (swV S x = feedL S0 (xs.take (k + 1))) := by
              show _ = _
              rw [← HSTEP.out, HE.out]
              unfold preV
              rw [if_neg hpre]
            clear HE HSTEP hpre
            as_aux_lemma =>
              rcases Bool.eq_false_or_eq_true S.inID with hI | hI
              · rcases hws with rfl | rfl | rfl | rfl
                · have e : Hid (swV S 32 = { S with raw := upL S.raw 32 64 }) := sw_def_yes S 32 (by decide) (by decide) (by decide) (by decide) (by decide) (by decide) (by decide) hI
                  simp only [hI, hstr, hp3] at hcell
                  go_wp2_with fail
                  refine (upto_any ra' rc' S.raw 32 64 64 rfl _ hst.out.raw (by decide)).mono ?_
                  rintro e' w2 ⟨ra3, rc3, rfl, o2, g2, n2⟩
                  obtain ⟨hcell2, hfroz2⟩ := told (hst.out.keepRaw g2)
                  have M := hide (hst.out.newRaw g2 o2 n2)
                  simp only [fld, hI, hp3] at hcell2
                  clear o2 g2 n2 hcell hfroz
                  go_wp2
                  go_roundw
                  case rel => exact ⟨k + 1, Q, B, { S with raw := upL S.raw 32 64 }, ka', kc', ra3, rc3, rfl, rfl, by go_num, by omega, hQ.out.later (by omega) (by omega), hB.out.later (by omega) (by omega), e.out.symm.trans HSW.out, M.out.1, (hfr.out.trans M.out.2)⟩
                  case measure => simp [intOf]; omega
                · have e : Hid (swV S 9 = { S with raw := upL S.raw 9 64 }) := sw_def_yes S 9 (by decide) (by decide) (by decide) (by decide) (by decide) (by decide) (by decide) hI
                  simp only [hI, hstr, hp3] at hcell
                  go_wp2_with fail
                  refine (upto_any ra' rc' S.raw 9 64 64 rfl _ hst.out.raw (by decide)).mono ?_
                  rintro e' w2 ⟨ra3, rc3, rfl, o2, g2, n2⟩
                  obtain ⟨hcell2, hfroz2⟩ := told (hst.out.keepRaw g2)
                  have M := hide (hst.out.newRaw g2 o2 n2)
                  simp only [fld, hI, hp3] at hcell2
                  clear o2 g2 n2 hcell hfroz
                  go_wp2
                  go_roundw
                  case rel => exact ⟨k + 1, Q, B, { S with raw := upL S.raw 9 64 }, ka', kc', ra3, rc3, rfl, rfl, by go_num, by omega, hQ.out.later (by omega) (by omega), hB.out.later (by omega) (by omega), e.out.symm.trans HSW.out, M.out.1, (hfr.out.trans M.out.2)⟩
                  case measure => simp [intOf]; omega
                · have e : Hid (swV S 10 = { S with raw := upL S.raw 10 64 }) := sw_def_yes S 10 (by decide) (by decide) (by decide) (by decide) (by decide) (by decide) (by decide) hI
                  simp only [hI, hstr, hp3] at hcell
                  go_wp2_with fail
                  refine (upto_any ra' rc' S.raw 10 64 64 rfl _ hst.out.raw (by decide)).mono ?_
                  rintro e' w2 ⟨ra3, rc3, rfl, o2, g2, n2⟩
                  obtain ⟨hcell2, hfroz2⟩ := told (hst.out.keepRaw g2)
                  have M := hide (hst.out.newRaw g2 o2 n2)
                  simp only [fld, hI, hp3] at hcell2
                  clear o2 g2 n2 hcell hfroz
                  go_wp2
                  go_roundw
                  case rel => exact ⟨k + 1, Q, B, { S with raw := upL S.raw 10 64 }, ka', kc', ra3, rc3, rfl, rfl, by go_num, by omega, hQ.out.later (by omega) (by omega), hB.out.later (by omega) (by omega), e.out.symm.trans HSW.out, M.out.1, (hfr.out.trans M.out.2)⟩
                  case measure => simp [intOf]; omega
                · have e : Hid (swV S 13 = { S with raw := upL S.raw 13 64 }) := sw_def_yes S 13 (by decide) (by decide) (by decide) (by decide) (by decide) (by decide) (by decide) hI
                  simp only [hI, hstr, hp3] at hcell
                  go_wp2_with fail
                  refine (upto_any ra' rc' S.raw 13 64 64 rfl _ hst.out.raw (by decide)).mono ?_
                  rintro e' w2 ⟨ra3, rc3, rfl, o2, g2, n2⟩
                  obtain ⟨hcell2, hfroz2⟩ := told (hst.out.keepRaw g2)
                  have M := hide (hst.out.newRaw g2 o2 n2)
                  simp only [fld, hI, hp3] at hcell2
                  clear o2 g2 n2 hcell hfroz
                  go_wp2
                  go_roundw
                  case rel => exact ⟨k + 1, Q, B, { S with raw := upL S.raw 13 64 }, ka', kc', ra3, rc3, rfl, rfl, by go_num, by omega, hQ.out.later (by omega) (by omega), hB.out.later (by omega) (by omega), e.out.symm.trans HSW.out, M.out.1, (hfr.out.trans M.out.2)⟩
                  case measure => simp [intOf]; omega
              · rcases hws with rfl | rfl | rfl | rfl
                · have e : Hid (swV S 32 = S) := sw_def_no S 32 (by decide) (by decide) (by decide) (by decide) (by decide) (by decide) (by decide) hI
                  simp only [hI, hstr, hp3] at hcell
                  go_wp2
                  go_roundw
                  case rel => exact ⟨k + 1, Q, B, S, ka', kc', ra', rc', rfl, rfl, by go_num, by omega, hQ.out.later (by omega) (by omega), hB.out.later (by omega) (by omega), e.out.symm.trans HSW.out, hst.out, hfr.out⟩
                  case measure => simp [intOf]; omega
                · have e : Hid (swV S 9 = S) := sw_def_no S 9 (by decide) (by decide) (by decide) (by decide) (by decide) (by decide) (by decide) hI
                  simp only [hI, hstr, hp3] at hcell
                  go_wp2
                  go_roundw
                  case rel => exact ⟨k + 1, Q, B, S, ka', kc', ra', rc', rfl, rfl, by go_num, by omega, hQ.out.later (by omega) (by omega), hB.out.later (by omega) (by omega), e.out.symm.trans HSW.out, hst.out, hfr.out⟩
                  case measure => simp [intOf]; omega
                · have e : Hid (swV S 10 = S) := sw_def_no S 10 (by decide) (by decide) (by decide) (by decide) (by decide) (by decide) (by decide) hI
                  simp only [hI, hstr, hp3] at hcell
                  go_wp2
                  go_roundw
                  case rel => exact ⟨k + 1, Q, B, S, ka', kc', ra', rc', rfl, rfl, by go_num, by omega, hQ.out.later (by omega) (by omega), hB.out.later (by omega) (by omega), e.out.symm.trans HSW.out, hst.out, hfr.out⟩
                  case measure => simp [intOf]; omega
                · have e : Hid (swV S 13 = S) := sw_def_no S 13 (by decide) (by decide) (by decide) (by decide) (by decide) (by decide) (by decide) hI
                  simp only [hI, hstr, hp3] at hcell
                  go_wp2
                  go_roundw
                  case rel => exact ⟨k + 1, Q, B, S, ka', kc', ra', rc', rfl, rfl, by go_num, by omega, hQ.out.later (by omega) (by omega), hB.out.later (by omega) (by omega), e.out.symm.trans HSW.out, hst.out, hfr.out⟩
                  case measure => simp [intOf]; omega
          · have hp3b : (S.pos == 3) = false := by rw [beq_eq_false_iff_ne]; exact hp3
            have HSW : Hid (swV S x = feedL S0 (xs.take (k + 1))) := by
              show _ = _
              rw [← HSTEP.out, HE.out]
              simp [preV, hp3]
            clear HE HSTEP hpre hp3
            as_aux_lemma =>
              by_cases hx1 : x = 34
              · subst hx1
                rcases Bool.eq_false_or_eq_true S.inID with hI | hI
                · by_cases hpos : S.pos = 1
                  · have e : Hid (swV S 34 = { S with str := true, raw := upL S.raw 34 64, inKey := true, key := [] }) := by show _ = _; simp [swV, hI, hpos]
                    simp only [hI, hpos, hstr] at hcell
                    have s1 := hide (hst.out.store 1 (.bool true) { S with str := true } rfl rfl rfl)
                    go_wp2_with fail
                    refine (upto_any ra' rc' S.raw 34 64 64 rfl _ s1.out.raw (by decide)).mono ?_
                    rintro e' w2 ⟨ra3, rc3, rfl, o2, g2, n2⟩
                    obtain ⟨hcell2, hfroz2⟩ := told (s1.out.keepRaw g2)
                    have M := hide (s1.out.newRaw g2 o2 n2)
                    simp only [fld, hI, hpos] at hcell2
                    clear o2 g2 n2 hcell hfroz
                    go_wp2
                    go_region
                    have s4 := M.out.1.store 4 (.bool true) { S with str := true, raw := upL S.raw 34 64, inKey := true } rfl rfl rfl
                    have r := hide (s4.newKey (World.grownBy.refl _ _) s4.key.empty (fun g hg => .inl hg))
                    clear s4
                    go_wp2
                    go_roundw
                    case rel => exact ⟨k + 1, Q, B, { S with str := true, raw := upL S.raw 34 64, inKey := true, key := [] }, ka', kc', ra3, rc3, rfl, rfl, by go_num, by omega, hQ.out.later (by omega) (by omega), hB.out.later (by omega) (by omega), e.out.symm.trans HSW.out, r.out.1.drew, ((((hfr.out.trans (ScanAt.frm_store _ _ _ _ _ _)).trans M.out.2).trans (ScanAt.frm_store _ _ _ _ _ _)).trans r.out.2).drew⟩
                    case measure => simp [intOf]; omega
                  · have e : Hid (swV S 34 = { S with str := true, raw := upL S.raw 34 64 }) := by show _ = _; simp [swV, hI, hpos]
                    simp only [hI, hstr] at hcell
                    have hposb : (S.pos == 1) = false := by rw [beq_eq_false_iff_ne]; exact hpos
                    have s1 := hide (hst.out.store 1 (.bool true) { S with str := true } rfl rfl rfl)
                    go_wp2_with fail
                    refine (upto_any ra' rc' S.raw 34 64 64 rfl _ s1.out.raw (by decide)).mono ?_
                    rintro e' w2 ⟨ra3, rc3, rfl, o2, g2, n2⟩
                    obtain ⟨hcell2, hfroz2⟩ := told (s1.out.keepRaw g2)
                    have M := hide (s1.out.newRaw g2 o2 n2)
                    simp only [fld, hI] at hcell2
                    clear o2 g2 n2 hcell hfroz
                    go_wp2
                    go_roundw
                    case rel => exact ⟨k + 1, Q, B, { S with str := true, raw := upL S.raw 34 64 }, ka', kc', ra3, rc3, rfl, rfl, by go_num, by omega, hQ.out.later (by omega) (by omega), hB.out.later (by omega) (by omega), e.out.symm.trans HSW.out, M.out.1, ((hfr.out.trans (ScanAt.frm_store _ _ _ _ _ _)).trans M.out.2)⟩
                    case measure => simp [intOf]; omega
                · by_cases hpos : S.pos = 1
                  · have e : Hid (swV S 34 = { S with str := true, inKey := true, key := [] }) := by show _ = _; simp [swV, hI, hpos]
                    simp only [hI, hpos, hstr] at hcell
                    have s1 := hide (hst.out.store 1 (.bool true) { S with str := true } rfl rfl rfl)
                    go_wp2
                    go_region
                    have s4 := s1.out.store 4 (.bool true) { S with str := true, inKey := true } rfl rfl rfl
                    have r := hide (s4.newKey (World.grownBy.refl _ _) s4.key.empty (fun g hg => .inl hg))
                    clear s4
                    go_wp2
                    go_roundw
                    case rel => exact ⟨k + 1, Q, B, { S with str := true, inKey := true, key := [] }, ka', kc', ra', rc', rfl, rfl, by go_num, by omega, hQ.out.later (by omega) (by omega), hB.out.later (by omega) (by omega), e.out.symm.trans HSW.out, r.out.1.drew, (((hfr.out.trans (ScanAt.frm_store _ _ _ _ _ _)).trans (ScanAt.frm_store _ _ _ _ _ _)).trans r.out.2).drew⟩
                    case measure => simp [intOf]; omega
                  · have e : Hid (swV S 34 = { S with str := true }) := by show _ = _; simp [swV, hI, hpos]
                    simp only [hI, hstr] at hcell
                    have hposb : (S.pos == 1) = false := by rw [beq_eq_false_iff_ne]; exact hpos
                    have s1 := hide (hst.out.store 1 (.bool true) { S with str := true } rfl rfl rfl)
                    go_wp2
                    go_roundw
                    case rel => exact ⟨k + 1, Q, B, { S with str := true }, ka', kc', ra', rc', rfl, rfl, by go_num, by omega, hQ.out.later (by omega) (by omega), hB.out.later (by omega) (by omega), e.out.symm.trans HSW.out, s1.out, (hfr.out.trans (ScanAt.frm_store _ _ _ _ _ _))⟩
                    case measure => simp [intOf]; omega
              by_cases hx123 : x = 123
              · subst hx123
                by_cases hd : wrap64 (S.depth + 1) = 1
                · have e : Hid (swV S 123 = { S with depth := wrap64 (S.depth + 1), pos := 1 }) := by show _ = _; simp [swV, hd]
                  simp only [hstr] at hcell
                  have hdb : (wrap64 (S.depth + 1) == 1) = true := by rw [beq_iff_eq]; exact hd
                  clear hd
                  go_wp2
                  go_roundw
                  case rel => exact ⟨k + 1, Q, B, { S with depth := wrap64 (S.depth + 1), pos := 1 }, ka', kc', ra', rc', rfl, rfl, by go_num, by omega, hQ.out.later (by omega) (by omega), hB.out.later (by omega) (by omega), e.out.symm.trans HSW.out, ((hst.out.store 0 (.int .i64 (wrap64 (S.depth + 1))) { S with depth := wrap64 (S.depth + 1) } rfl rfl rfl).store 3 (.int .i64 1) _ rfl rfl rfl), ((hfr.out.trans (ScanAt.frm_store _ _ _ _ _ _)).trans (ScanAt.frm_store _ _ _ _ _ _))⟩
                  case measure => simp [intOf]; omega
                · have e : Hid (swV S 123 = { S with depth := wrap64 (S.depth + 1) }) := by show _ = _; simp [swV, hd]
                  simp only [hstr] at hcell
                  have hdb : (wrap64 (S.depth + 1) == 1) = false := by rw [beq_eq_false_iff_ne]; exact hd
                  clear hd
                  go_wp2
                  go_roundw
                  case rel => exact ⟨k + 1, Q, B, { S with depth := wrap64 (S.depth + 1) }, ka', kc', ra', rc', rfl, rfl, by go_num, by omega, hQ.out.later (by omega) (by omega), hB.out.later (by omega) (by omega), e.out.symm.trans HSW.out, (hst.out.store 0 (.int .i64 (wrap64 (S.depth + 1))) { S with depth := wrap64 (S.depth + 1) } rfl rfl rfl), (hfr.out.trans (ScanAt.frm_store _ _ _ _ _ _))⟩
                  case measure => simp [intOf]; omega
              by_cases hx91 : x = 91
              · subst hx91
                by_cases hd : wrap64 (S.depth + 1) = 1
                · have e : Hid (swV S 91 = { S with depth := wrap64 (S.depth + 1), pos := 1 }) := by show _ = _; simp [swV, hd]
                  simp only [hstr] at hcell
                  have hdb : (wrap64 (S.depth + 1) == 1) = true := by rw [beq_iff_eq]; exact hd
                  clear hd
                  go_wp2
                  go_roundw
                  case rel => exact ⟨k + 1, Q, B, { S with depth := wrap64 (S.depth + 1), pos := 1 }, ka', kc', ra', rc', rfl, rfl, by go_num, by omega, hQ.out.later (by omega) (by omega), hB.out.later (by omega) (by omega), e.out.symm.trans HSW.out, ((hst.out.store 0 (.int .i64 (wrap64 (S.depth + 1))) { S with depth := wrap64 (S.depth + 1) } rfl rfl rfl).store 3 (.int .i64 1) _ rfl rfl rfl), ((hfr.out.trans (ScanAt.frm_store _ _ _ _ _ _)).trans (ScanAt.frm_store _ _ _ _ _ _))⟩
                  case measure => simp [intOf]; omega
                · have e : Hid (swV S 91 = { S with depth := wrap64 (S.depth + 1) }) := by show _ = _; simp [swV, hd]
                  simp only [hstr] at hcell
                  have hdb : (wrap64 (S.depth + 1) == 1) = false := by rw [beq_eq_false_iff_ne]; exact hd
                  clear hd
                  go_wp2
                  go_roundw
                  case rel => exact ⟨k + 1, Q, B, { S with depth := wrap64 (S.depth + 1) }, ka', kc', ra', rc', rfl, rfl, by go_num, by omega, hQ.out.later (by omega) (by omega), hB.out.later (by omega) (by omega), e.out.symm.trans HSW.out, (hst.out.store 0 (.int .i64 (wrap64 (S.depth + 1))) { S with depth := wrap64 (S.depth + 1) } rfl rfl rfl), (hfr.out.trans (ScanAt.frm_store _ _ _ _ _ _))⟩
                  case measure => simp [intOf]; omega
              by_cases hx125 : x = 125
              · subst hx125
                have e : Hid (swV S 125 = { S with depth := wrap64 (S.depth - 1) }) := by show _ = _; simp [swV]
                simp only [hstr] at hcell
                go_wp2
                go_roundw
                case rel => exact ⟨k + 1, Q, B, { S with depth := wrap64 (S.depth - 1) }, ka', kc', ra', rc', rfl, rfl, by go_num, by omega, hQ.out.later (by omega) (by omega), hB.out.later (by omega) (by omega), e.out.symm.trans HSW.out, (hst.out.store 0 (.int .i64 (wrap64 (S.depth - 1))) _ rfl rfl rfl), (hfr.out.trans (ScanAt.frm_store _ _ _ _ _ _))⟩
                case measure => simp [intOf]; omega
              by_cases hx93 : x = 93
              · subst hx93
                have e : Hid (swV S 93 = { S with depth := wrap64 (S.depth - 1) }) := by show _ = _; simp [swV]
                simp only [hstr] at hcell
                go_wp2
                go_roundw
                case rel => exact ⟨k + 1, Q, B, { S with depth := wrap64 (S.depth - 1) }, ka', kc', ra', rc', rfl, rfl, by go_num, by omega, hQ.out.later (by omega) (by omega), hB.out.later (by omega) (by omega), e.out.symm.trans HSW.out, (hst.out.store 0 (.int .i64 (wrap64 (S.depth - 1))) _ rfl rfl rfl), (hfr.out.trans (ScanAt.frm_store _ _ _ _ _ _))⟩
                case measure => simp [intOf]; omega
              by_cases hx58 : x = 58
              · subst hx58
                by_cases hpos : S.pos = 2
                · rcases Bool.eq_false_or_eq_true S.method with hm | hm
                  · have e : Hid (swV S 58 = { S with pos := 3, method := true }) := by show _ = _; simp [swV, hpos, hm]
                    simp only [hpos, hm, hstr] at hcell
                    have s3 := hst.out.store 3 (.int .i64 3) { S with pos := 3 } rfl rfl rfl
                    have S3 := hide s3
                    clear s3
                    go_wp2
                    go_roundw
                    case rel => exact ⟨k + 1, Q, B, { S with pos := 3, method := true }, ka', kc', ra', rc', rfl, rfl, by go_num, by omega, hQ.out.later (by omega) (by omega), hB.out.later (by omega) (by omega), e.out.symm.trans HSW.out, (S3.out.store 8 (.bool true) _ rfl rfl rfl), ((hfr.out.trans (ScanAt.frm_store _ _ _ _ _ _)).trans (ScanAt.frm_store _ _ _ _ _ _))⟩
                    case measure => simp [intOf]; omega
                  · have e : Hid (swV S 58 = { S with pos := 3, method := isMethod S.key }) := by show _ = _; simp [swV, hpos, hm]
                    simp only [hpos, hm, hstr] at hcell
                    have s3 := hst.out.store 3 (.int .i64 3) { S with pos := 3 } rfl rfl rfl
                    have hconv := s3.key.conv
                    have S3 := hide s3
                    clear s3
                    go_wp2
                    go_roundw
                    case rel => exact ⟨k + 1, Q, B, { S with pos := 3, method := isMethod S.key }, ka', kc', ra', rc', rfl, rfl, by go_num, by omega, hQ.out.later (by omega) (by omega), hB.out.later (by omega) (by omega), e.out.symm.trans HSW.out, (S3.out.store 8 (.bool (isMethod S.key)) _ rfl rfl rfl), ((hfr.out.trans (ScanAt.frm_store _ _ _ _ _ _)).trans (ScanAt.frm_store _ _ _ _ _ _))⟩
                    case measure => simp [intOf]; omega
                · have e : Hid (swV S 58 = S) := by show _ = _; simp [swV, hpos]
                  simp only [hstr] at hcell
                  have hposb : (S.pos == 2) = false := by rw [beq_eq_false_iff_ne]; exact hpos
                  go_wp2
                  go_roundw
                  case rel => exact ⟨k + 1, Q, B, S, ka', kc', ra', rc', rfl, rfl, by go_num, by omega, hQ.out.later (by omega) (by omega), hB.out.later (by omega) (by omega), e.out.symm.trans HSW.out, hst.out, hfr.out⟩
                  case measure => simp [intOf]; omega
              by_cases hx44 : x = 44
              · subst hx44
                by_cases hd : S.depth = 1
                · have e : Hid (swV S 44 = { S with inID := false, pos := 1 }) := by show _ = _; simp [swV, hd]
                  simp only [hstr] at hcell
                  have hdb : (S.depth == 1) = true := by rw [beq_iff_eq]; exact hd
                  clear hd
                  go_wp2
                  go_roundw
                  case rel => exact ⟨k + 1, Q, B, { S with inID := false, pos := 1 }, ka', kc', ra', rc', rfl, rfl, by go_num, by omega, hQ.out.later (by omega) (by omega), hB.out.later (by omega) (by omega), e.out.symm.trans HSW.out, ((hst.out.store 6 (.bool false) { S with inID := false } rfl rfl rfl).store 3 (.int .i64 1) _ rfl rfl rfl), ((hfr.out.trans (ScanAt.frm_store _ _ _ _ _ _)).trans (ScanAt.frm_store _ _ _ _ _ _))⟩
                  case measure => simp [intOf]; omega
                · have e : Hid (swV S 44 = { S with inID := false }) := by show _ = _; simp [swV, hd]
                  simp only [hstr] at hcell
                  have hdb : (S.depth == 1) = false := by rw [beq_eq_false_iff_ne]; exact hd
                  clear hd
                  go_wp2
                  go_roundw
                  case rel => exact ⟨k + 1, Q, B, { S with inID := false }, ka', kc', ra', rc', rfl, rfl, by go_num, by omega, hQ.out.later (by omega) (by omega), hB.out.later (by omega) (by omega), e.out.symm.trans HSW.out, (hst.out.store 6 (.bool false) { S with inID := false } rfl rfl rfl), (hfr.out.trans (ScanAt.frm_store _ _ _ _ _ _))⟩
                  case measure => simp [intOf]; omega
              rcases Bool.eq_false_or_eq_true S.inID with hI | hI
              · have e : Hid (swV S x = { S with raw := upL S.raw x 64 }) := sw_def_yes S x hx1 hx123 hx91 hx125 hx93 hx58 hx44 hI
                have y34 : (x == 34) = false := by rw [beq_eq_false_iff_ne]; exact hx1
                have y123 : (x == 123) = false := by rw [beq_eq_false_iff_ne]; exact hx123
                have y91 : (x == 91) = false := by rw [beq_eq_false_iff_ne]; exact hx91
                have y125 : (x == 125) = false := by rw [beq_eq_false_iff_ne]; exact hx125
                have y93 : (x == 93) = false := by rw [beq_eq_false_iff_ne]; exact hx93
                have y58 : (x == 58) = false := by rw [beq_eq_false_iff_ne]; exact hx58
                have y44 : (x == 44) = false := by rw [beq_eq_false_iff_ne]; exact hx44
                simp only [hI, hstr] at hcell
                go_wp2_with fail
                refine (upto_any ra' rc' S.raw x 64 64 rfl _ hst.out.raw (by decide)).mono ?_
                rintro e' w2 ⟨ra3, rc3, rfl, o2, g2, n2⟩
                obtain ⟨hcell2, hfroz2⟩ := told (hst.out.keepRaw g2)
                have M := hide (hst.out.newRaw g2 o2 n2)
                simp only [fld, hI] at hcell2
                clear o2 g2 n2 hcell hfroz
                go_wp2
                go_roundw
                case rel => exact ⟨k + 1, Q, B, { S with raw := upL S.raw x 64 }, ka', kc', ra3, rc3, rfl, rfl, by go_num, by omega, hQ.out.later (by omega) (by omega), hB.out.later (by omega) (by omega), e.out.symm.trans HSW.out, M.out.1, (hfr.out.trans M.out.2)⟩
                case measure => simp [intOf]; omega
              · have e : Hid (swV S x = S) := sw_def_no S x hx1 hx123 hx91 hx125 hx93 hx58 hx44 hI
                have y34 : (x == 34) = false := by rw [beq_eq_false_iff_ne]; exact hx1
                have y123 : (x == 123) = false := by rw [beq_eq_false_iff_ne]; exact hx123
                have y91 : (x == 91) = false := by rw [beq_eq_false_iff_ne]; exact hx91
                have y125 : (x == 125) = false := by rw [beq_eq_false_iff_ne]; exact hx125
                have y93 : (x == 93) = false := by rw [beq_eq_false_iff_ne]; exact hx93
                have y58 : (x == 58) = false := by rw [beq_eq_false_iff_ne]; exact hx58
                have y44 : (x == 44) = false := by rw [beq_eq_false_iff_ne]; exact hx44
                simp only [hI, hstr] at hcell
                go_wp2
                go_roundw
                case rel => exact ⟨k + 1, Q, B, S, ka', kc', ra', rc', rfl, rfl, by go_num, by omega, hQ.out.later (by omega) (by omega), hB.out.later (by omega) (by omega), e.out.symm.trans HSW.out, hst.out, hfr.out⟩
                case measure => simp [intOf]; omega
    · go_wp2
      go_end0
      have e : xs.take k = xs := List.take_of_length_le (by omega)
      have hS' := hS.out
      rw [e] at hS'
      rw [← hS']
      exact ⟨rfl, ka', kc', ra', rc', hst.out, hfr.out⟩

end Go.Proofs.Qxb6603984aMods
