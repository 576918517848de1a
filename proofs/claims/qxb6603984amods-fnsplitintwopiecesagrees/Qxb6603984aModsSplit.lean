/-
  THE WALK OF split.
-/
import Derived.Test.Qxb6603984aModsTake
namespace Go.Proofs.Qxb6603984aMods
open Go.RowKit Plain

theorem isData_nil : isData [] = false := by
  cases h : isData [] with
  | false => rfl
  | true => have := isData_len [] h; simp at this

/-- The line is over: the events begin a new one. -/
theorem EvAt.reset {w : World} {eb sb : Nat} {fa : Option Addr} {fc : Nat} {ka : Option Addr} {kc : Nat} {ra : Option Addr} {rc : Nat} {E : Ev} (h : EvAt w eb sb fa fc ka kc ra rc E) :
    EvAt (((w.setCell ⟨eb, 0, none⟩ (.int .i64 0)).setCell ⟨eb, 1, none⟩ (.slice fa 0 fc)).setCell ⟨eb, 2, none⟩ (.bool false)) eb sb fa fc ka kc ra rc (resetE E) ∧
    FrmE w eb sb fa ka ra (((w.setCell ⟨eb, 0, none⟩ (.int .i64 0)).setCell ⟨eb, 1, none⟩ (.slice fa 0 fc)).setCell ⟨eb, 2, none⟩ (.bool false)) fa ka ra := by
  have h0 := h.store 0 (.int .i64 0) { E with line := 0 } rfl rfl rfl
  have r := h0.newField (World.grownBy.refl _ _) h0.field.empty (fun g hg => .inl hg)
  rw [isData_nil] at r
  exact ⟨r.1, (EvAt.frm_store _ _ _ _ _ _ _ _).trans r.2.1⟩

theorem EvAt.drew {w : World} {eb sb : Nat} {fa : Option Addr} {fc : Nat} {ka : Option Addr} {kc : Nat} {ra : Option Addr} {rc : Nat} {E : Ev} (h : EvAt w eb sb fa fc ka kc ra rc E) : EvAt w.drew eb sb fa fc ka kc ra rc E :=
  ⟨h.cells, h.field.same (fun _ _ => rfl), h.scan.drew, h.apartK, h.apartR⟩

theorem ScanAt.drewN {w : World} {sb : Nat} {ka : Option Addr} {kc : Nat} {ra : Option Addr} {rc : Nat} {S : Sc} (h : ScanAt w sb ka kc ra rc S) (n : Nat) : ScanAt (w.drewN n) sb ka kc ra rc S :=
  ⟨h.cells, h.key.same (fun _ _ => rfl), h.raw.same (fun _ _ => rfl), h.apart⟩

theorem EvAt.drewN {w : World} {eb sb : Nat} {fa : Option Addr} {fc : Nat} {ka : Option Addr} {kc : Nat} {ra : Option Addr} {rc : Nat} {E : Ev} (h : EvAt w eb sb fa fc ka kc ra rc E) (n : Nat) : EvAt (w.drewN n) eb sb fa fc ka kc ra rc E :=
  ⟨h.cells, h.field.same (fun _ _ => rfl), h.scan.drewN n, h.apartK, h.apartR⟩

theorem FrmE.drewN {w w' : World} {eb sb : Nat} {fa ka ra fa' ka' ra' : Option Addr} (h : FrmE w eb sb fa ka ra w' fa' ka' ra') (n : Nat) : FrmE w eb sb fa ka ra (w'.drewN n) fa' ka' ra' := ⟨h.only.drewN n, h.field, h.key, h.raw⟩

set_option maxHeartbeats 4000000 in
set_option maxRecDepth 100000 in
/-- split, at a slice that is not empty. -/
theorem split_some (w : World) (eb sb : Nat) (fa : Option Addr) (fc : Nat) (ka : Option Addr) (kc : Nat) (ra : Option Addr) (rc : Nat) (E : Ev) (h : EvAt w eb sb fa fc ka kc ra rc E)
    (pb off c : Nat) (xs : List Int) (hl : xs.length ≤ 1048576) (hn : xs.length ≤ c) (hline : E.line ≤ 4294967296) (hfl : E.field.length = min E.line 5) (hw : ∀ x ∈ xs, 0 ≤ x ∧ x ≤ 255)
    (hpc : ∀ j, j < xs.length → w.cell? ⟨pb, off + j, none⟩ = some (.int .u8 (xs.getD j 0))) (hpf : ¬ FootE eb sb fa ka ra pb) (hpw : pb < w.heap.size) :
    Calls Trym.prog 25 #[.pointer (some ⟨eb, 0, none⟩), .slice (some ⟨pb, off, none⟩) xs.length c, .pointer (some ⟨sb, 0, none⟩)] w fun e w' =>
      e = .returned (.tuple #[.int .i64 (splitL E xs).n, .bool (splitL E xs).ok, .int .i64 (splitL E xs).delim]) ∧ DoingE w eb sb fa ka ra (splitL E xs).ev w' := by
  obtain ⟨R, hR⟩ : ∃ R, R = splitL E xs := ⟨_, rfl⟩
  rw [← hR]
  have HR := hide hR
  have HPC : Hid (∀ wr fa' ka' ra', FrmE w eb sb fa ka ra wr fa' ka' ra' → ∀ j, j < xs.length → wr.cell? ⟨pb, off + j, none⟩ = some (.int .u8 (xs.getD j 0))) := by
    intro wr fa' ka' ra' hf j hj
    rw [World.cell?_of_block (w := w) (hf.only.block pb hpw hpf)]
    exact hpc j hj
  have HPR : Hid (∀ wr fa' ka' ra', FrmE w eb sb fa ka ra wr fa' ka' ra' → ∀ k m, k + m ≤ xs.length → PRow wr (some ⟨pb, off + k, none⟩) (c - k) ((xs.drop k).take m) (FootE eb sb fa' ka' ra')) := by
    intro wr fa' ka' ra' hf k m hkm
    have hlm : ((xs.drop k).take m).length = m := by simp; omega
    refine ⟨by rw [hlm]; omega, .inr ⟨pb, off + k, rfl, Nat.lt_of_lt_of_le hpw hf.only.size, ?_, fun j hj => ?_⟩⟩
    · intro hg
      rcases hg with hg | hg | hg | hg | hg
      · exact hpf (.inl hg)
      · rcases hf.field pb hg with h1 | h1
        · exact hpf (.inr (.inl h1))
        · omega
      · exact hpf (.inr (.inr (.inl hg)))
      · rcases hf.key pb hg with h1 | h1
        · exact hpf (.inr (.inr (.inr (.inl h1))))
        · omega
      · rcases hf.raw pb hg with h1 | h1
        · exact hpf (.inr (.inr (.inr (.inr h1))))
        · omega
    · rw [hlm] at hj
      rw [Nat.add_assoc, HPC.out wr fa' ka' ra' hf (k + j) (by omega)]
      simp [List.getD, hj]
  have HW := hide hw
  have H0 := hide h
  have HFL := hide hfl
  clear hpc hpf hpw hw h hR hfl
  go_enter Trym.func25, Trym.ntmps25
  go_wp2
  go_loopw [9] (fun n wr => ∃ (k : Nat) (E' : Ev) (fa' : Option Addr) (fc' : Nat) (ka' : Option Addr) (kc' : Nat) (ra' : Option Addr) (rc' : Nat), n = .int .i64 k ∧ k ≤ xs.length ∧ E'.line ≤ E.line + k ∧ Hid (E'.field.length = min E'.line 5) ∧
      Hid (R = (splitL E' (xs.drop k)).more k) ∧ Hid (EvAt wr eb sb fa' fc' ka' kc' ra' rc' E') ∧ Hid (FrmE w eb sb fa ka ra wr fa' ka' ra')) (fun n _ => xs.length - (intOf n).toNat)
  case atStart => exact ⟨0, E, fa, fc, ka, kc, ra, rc, rfl, Nat.zero_le _, by omega, HFL.out, by rw [List.drop_zero, more_zero]; exact HR.out, H0.out, FrmE.refl _ _ _ _ _ _⟩
  case round =>
    obtain ⟨k, E', fa', fc', ka', kc', ra', rc', rfl, hk, hli, hfl, hr, hev, hfr⟩ := hrel
    by_cases hlt : k < xs.length
    · have hne : ¬ c = k := by omega
      have hcd : Hid (∀ j, j < xs.length - k → wr.cell? ⟨pb, off + k + j, none⟩ = some (.int .u8 ((xs.drop k).getD j 0))) := by
        intro j hj
        rw [Nat.add_assoc, HPC.out wr fa' ka' ra' hfr.out (k + j) (by omega)]
        simp [List.getD]
      have hwd : ∀ x ∈ xs.drop k, 0 ≤ x ∧ x ≤ 255 := fun x hx => HW.out x (List.mem_of_mem_drop hx)
      rcases first_of 10 (xs.drop k) with h1 | ⟨pre, post, h1, h2⟩
      · -- the last line, not ended
        have hix : Hid (Lib.indexByte (Lib.bytesOf (xs.drop k)) (10 : Int).toNat.toUInt8 = -1) := index_no 10 _ (by omega) hwd h1
        have HE : Hid (R = { ev := takeL E' (xs.drop k), n := xs.length, ok := false, delim := 0 }) := by
          show _ = _
          rw [hr.out, splitL_last _ _ h1]
          simp [Out.more]
          omega
        have hdl : (xs.drop k).length = xs.length - k := by simp
        have T := take_any wr eb sb fa' fc' ka' kc' ra' rc' E' hev.out (some ⟨pb, off + k, none⟩) (c - k) (xs.drop k) (by omega) (by omega) (by rw [hfl.out]; omega) hwd (by
          have := HPR.out wr fa' ka' ra' hfr.out k (xs.length - k) (by omega)
          rwa [List.take_of_length_le (by omega)] at this)
        rw [hdl] at T
        have HT := hide T
        clear T h1 hwd hdl hr hev
        go_wp2_with fail
        refine (index_at pb (off + k) (xs.length - k) _ (xs.drop k) 10 _ (by simp) hcd.out).mono ?_
        rw [hix.out]
        rintro e w1 ⟨rfl, rfl⟩
        go_wp2_with fail
        refine HT.out.mono ?_
        rintro e w2 ⟨rfl, fa2, fc2, ka2, kc2, ra2, rc2, ev2, fr2⟩
        have EV2 := hide ev2
        have FR2 := hide fr2
        clear ev2 fr2 HT
        go_wp2
        go_ret3
        rw [HE.out]
        exact ⟨rfl, fa2, fc2, ka2, kc2, ra2, rc2, EV2.out, hfr.out.trans FR2.out⟩
      · -- a line that has ended
        have hpl : k + pre.length + 1 ≤ xs.length := by
          have := congrArg List.length h1
          simp at this
          omega
        have hix : Hid (Lib.indexByte (Lib.bytesOf (xs.drop k)) (10 : Int).toNat.toUInt8 = (pre.length : Int)) := by
          show _ = _
          rw [h1] at hwd ⊢
          exact index_yes 10 pre post (by omega) (fun x hx => hwd x (by simp [hx])) h2
        have hpre : (xs.drop k).take pre.length = pre := by rw [h1]; exact List.take_left
        have hpost : xs.drop (k + (pre.length + 1)) = post := by
          rw [← List.drop_drop, h1, show pre ++ 10 :: post = (pre ++ [10]) ++ post by simp]
          exact List.drop_left' (by simp)
        have hwp : ∀ x ∈ pre, 0 ≤ x ∧ x ≤ 255 := fun x hx => hwd x (by rw [h1]; simp [hx])
        have T := take_any wr eb sb fa' fc' ka' kc' ra' rc' E' hev.out (some ⟨pb, off + k, none⟩) (c - k) pre (by omega) (by omega) (by rw [hfl.out]; omega) hwp (by
          have := HPR.out wr fa' ka' ra' hfr.out k pre.length (by omega)
          rwa [hpre] at this)
        have hTl := takeL_len pre E' hfl.out
        have hTn : (takeL E' pre).line = E'.line + pre.length := by rw [takeL_eq pre E' (by rw [hfl.out]; omega)]
        have hS := splitL_line E' pre post h2
        rw [← h1] at hS
        generalize takeL E' pre = T' at T hTl hTn hS
        obtain ⟨L, F, S2⟩ := T'
        simp only at hTl hTn
        have HT := hide T
        have HB : Hid (R = if blankE ⟨L, F, S2⟩ = true then { ev := resetE ⟨L, F, S2⟩, n := k + (pre.length + 1), ok := true, delim := L + 1 } else (splitL (resetE ⟨L, F, S2⟩) post).more (k + (pre.length + 1))) := by
          show _ = _
          rw [hr.out, hS]
          split
          · simp [Out.more]; omega
          · rw [more_more]; congr 1; omega
        have HPO := hide hpost
        have HTL := hide hTl
        have hLb : L ≤ 1099511627776 := by omega
        clear T hS h1 h2 hwd hwp hr hev hpost hpre hTl hTn hfl
        go_wp2_with fail
        refine (index_at pb (off + k) (xs.length - k) _ (xs.drop k) 10 _ (by simp) hcd.out).mono ?_
        rw [hix.out]
        rintro e w1 ⟨rfl, rfl⟩
        go_wp2_with fail
        refine HT.out.mono ?_
        rintro e w2 ⟨rfl, fa2, fc2, ka2, kc2, ra2, rc2, ev2, fr2⟩
        have EV2 := hide ev2
        have FR2 := hide (hfr.out.trans fr2)
        obtain ⟨hcell, hfroz⟩ := told ev2.cells
        simp only [fldE] at hcell
        clear ev2 fr2 HT hfr
        have hcase : L = 0 ∨ (L = 1 ∧ F.getD 0 0 = 13) ∨ (L = 1 ∧ F.getD 0 0 ≠ 13) ∨ 2 ≤ L := by omega
        rcases hcase with rfl | ⟨rfl, h13⟩ | ⟨rfl, h13⟩ | hL2
        · have e : Hid (R = { ev := resetE ⟨0, F, S2⟩, n := k + (pre.length + 1), ok := true, delim := 1 }) := by show _ = _; rw [HB.out]; simp [blankE]
          go_wp2
          go_quiet (fail)
          go_wp2
          go_region
          go_wp2
          go_ret3
          rw [e.out]
          exact ⟨by simp, fa2, fc2, ka2, kc2, ra2, rc2, (EV2.out.drewN (nq + 1)).reset.1, (FR2.out.drewN (nq + 1)).trans (EV2.out.drewN (nq + 1)).reset.2⟩
        · have h13b : (F.getD 0 0 == 13) = true := by rw [beq_iff_eq]; exact h13
          have e : Hid (R = { ev := resetE ⟨1, F, S2⟩, n := k + (pre.length + 1), ok := true, delim := 2 }) := by
            show _ = _
            have hb : blankE ⟨1, F, S2⟩ = true := by show ((1 : Nat) == 0 || ((1 : Nat) == 1 && F.getD 0 0 == 13)) = true; rw [h13b]; rfl
            rw [HB.out, hb]
            rfl
          have hFl : F.length = 1 := by have := HTL.out; omega
          obtain ⟨g, hg, hgc⟩ := EV2.out.field.get 0 (show 0 < F.length by omega)
          simp only at hg hgc
          subst hg
          have hF1 : (0 : Int) < (F.length : Int) := by omega
          generalize F.getD 0 0 = f0 at hgc h13 h13b
          clear hFl
          go_wp2
          go_quiet (fail)
          go_wp2
          go_region
          go_wp2
          go_ret3
          rw [e.out]
          exact ⟨by simp, some ⟨g, 0, none⟩, fc2, ka2, kc2, ra2, rc2, (EV2.out.drewN (nq + 1)).reset.1, (FR2.out.drewN (nq + 1)).trans (EV2.out.drewN (nq + 1)).reset.2⟩
        · have h13b : (F.getD 0 0 == 13) = false := by rw [beq_eq_false_iff_ne]; exact h13
          have e : Hid (R = (splitL (resetE ⟨1, F, S2⟩) (xs.drop (k + (pre.length + 1)))).more (k + (pre.length + 1))) := by
            show _ = _
            have hb : blankE ⟨1, F, S2⟩ = false := by show ((1 : Nat) == 0 || ((1 : Nat) == 1 && F.getD 0 0 == 13)) = false; rw [h13b]; rfl
            rw [HB.out, HPO.out, hb]
            rfl
          have hFl : F.length = 1 := by have := HTL.out; omega
          obtain ⟨g, hg, hgc⟩ := EV2.out.field.get 0 (show 0 < F.length by omega)
          simp only at hg hgc
          subst hg
          have hF1 : (0 : Int) < (F.length : Int) := by omega
          generalize F.getD 0 0 = f0 at hgc h13 h13b
          clear hFl
          go_wp2
          go_quiet (fail)
          go_wp2
          go_region
          go_wp2
          go_roundw
          case rel => exact ⟨k + (pre.length + 1), resetE ⟨1, F, S2⟩, some ⟨g, 0, none⟩, fc2, ka2, kc2, ra2, rc2, by go_num, by omega, Nat.zero_le _, rfl, e.out, (EV2.out.drewN (nq + 1)).reset.1, (FR2.out.drewN (nq + 1)).trans (EV2.out.drewN (nq + 1)).reset.2⟩
          case measure => simp [intOf]; omega
        · have e : Hid (R = (splitL (resetE ⟨L, F, S2⟩) (xs.drop (k + (pre.length + 1)))).more (k + (pre.length + 1))) := by
            show _ = _
            have hb : blankE ⟨L, F, S2⟩ = false := by
              have h0 : (L == 0) = false := by rw [beq_eq_false_iff_ne]; omega
              have h1 : (L == 1) = false := by rw [beq_eq_false_iff_ne]; omega
              simp [blankE, h0, h1]
            rw [HB.out, HPO.out, hb]
            rfl
          have hL0 : ((L : Int) == 0) = false := by rw [beq_eq_false_iff_ne]; omega
          have hL1 : ((L : Int) == 1) = false := by rw [beq_eq_false_iff_ne]; omega
          go_wp2
          go_quiet (fail)
          go_wp2
          go_region
          go_wp2
          go_roundw
          case rel => exact ⟨k + (pre.length + 1), resetE ⟨L, F, S2⟩, fa2, fc2, ka2, kc2, ra2, rc2, by go_num, by omega, Nat.zero_le _, rfl, e.out, (EV2.out.drewN (nq + 1)).reset.1, (FR2.out.drewN (nq + 1)).trans (EV2.out.drewN (nq + 1)).reset.2⟩
          case measure => simp [intOf]; omega
    · have e : Hid (R = { ev := E', n := xs.length, ok := false, delim := 0 }) := by
        show _ = _
        rw [hr.out, List.drop_of_length_le (by omega), splitL_nil]
        simp [Out.more]
        omega
      obtain rfl : k = xs.length := by omega
      go_wp2
      go_ret3
      rw [e.out]
      exact ⟨rfl, fa', fc', ka', kc', ra', rc', hev.out, hfr.out⟩

/-- split, at an empty slice. -/
theorem split_zero (w : World) (eb sb : Nat) (fa : Option Addr) (fc : Nat) (ka : Option Addr) (kc : Nat) (ra : Option Addr) (rc : Nat) (E : Ev) (h : EvAt w eb sb fa fc ka kc ra rc E) (a : Option Addr) (c : Nat) :
    Calls Trym.prog 25 #[.pointer (some ⟨eb, 0, none⟩), .slice a 0 c, .pointer (some ⟨sb, 0, none⟩)] w fun e w' =>
      e = .returned (.tuple #[.int .i64 0, .bool false, .int .i64 0]) ∧ DoingE w eb sb fa ka ra E w' := by
  have H := hide h
  clear h
  go_enter Trym.func25, Trym.ntmps25
  go_wp2
  refine wp_loop_rounds 1 ?_
  rw [rounds_succ]
  go_wp2
  go_ret3
  exact ⟨rfl, fa, fc, ka, kc, ra, rc, H.out, FrmE.refl _ _ _ _ _ _⟩

/-- split. -/
theorem split_any (w : World) (eb sb : Nat) (fa : Option Addr) (fc : Nat) (ka : Option Addr) (kc : Nat) (ra : Option Addr) (rc : Nat) (E : Ev) (h : EvAt w eb sb fa fc ka kc ra rc E)
    (a : Option Addr) (c : Nat) (xs : List Int) (hl : xs.length ≤ 1048576) (hline : E.line ≤ 4294967296) (hfl : E.field.length = min E.line 5) (hw : ∀ x ∈ xs, 0 ≤ x ∧ x ≤ 255) (hp : PRow w a c xs (FootE eb sb fa ka ra)) :
    Calls Trym.prog 25 #[.pointer (some ⟨eb, 0, none⟩), .slice a xs.length c, .pointer (some ⟨sb, 0, none⟩)] w fun e w' =>
      e = .returned (.tuple #[.int .i64 (splitL E xs).n, .bool (splitL E xs).ok, .int .i64 (splitL E xs).delim]) ∧ DoingE w eb sb fa ka ra (splitL E xs).ev w' := by
  obtain ⟨hc, hp⟩ := hp
  rcases hp with rfl | ⟨pb, off, rfl, hpw, hpf, hpc⟩
  · exact split_zero w eb sb fa fc ka kc ra rc E h a c
  · exact split_some w eb sb fa fc ka kc ra rc E h pb off c xs hl hc hline hfl hw hpc hpf hpw

end Go.Proofs.Qxb6603984aMods
