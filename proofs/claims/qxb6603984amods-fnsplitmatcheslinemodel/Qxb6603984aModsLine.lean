/-
  THE WALK OF FnSplitMatchesLineModel.
-/
import Derived.Test.Qxb6603984aModsLineOut
import Derived.Deep.Light
import Derived.Deep.CutBlock
import Derived.Deep.RegionHeld3
namespace Go.Proofs.Qxb6603984aMods
open Go.RowKit Plain

set_option maxHeartbeats 16000000 in
set_option maxRecDepth 100000 in
theorem line_main (line : Nat) (a1 : Option Addr) (c1 : Nat) (f : List Int) (S0 : Sc) (a2 : Option Addr) (c2 : Nat) (a3 : Option Addr) (c3 : Nat) (a4 : Option Addr) (c4 : Nat) (z : List Int) (w : World)
    (h1 : Cl w a1 c1 f) (h2 : Cl w a2 c2 S0.key) (h3 : Cl w a3 c3 S0.raw) (h4 : Cl w a4 c4 z) (hline : line ≤ 1073741824) (hf : f.length = min line 5) (hk : S0.key.length ≤ 65536) (hr : S0.raw.length ≤ 65536) (hz : z.length ≤ 65536) (hwf : ∀ x ∈ f, 0 ≤ x ∧ x ≤ 255) (hwz : ∀ x ∈ z, 0 ≤ x ∧ x ≤ 255) :
    Calls Trym.prog 4 #[.int .i64 line, .slice a1 f.length c1, .int .i64 S0.depth, .bool S0.str, .bool S0.esc, .int .i64 S0.pos, .bool S0.inKey, .slice a2 S0.key.length c2, .bool S0.inID, .slice a3 S0.raw.length c3, .bool S0.method, .slice a4 z.length c4] w fun e w' => e = .returned (.bool true) ∧ Below w.heap.size w w' := by
  have H1 := hide h1
  have H2 := hide h2
  have H3 := hide h3
  have H4 := hide h4
  have HF := hide hf
  have HWF := hide hwf
  have HWZ := hide hwz
  have hf5 : f.length ≤ 5 := by omega
  have hmin : ((f.length : Int) != ((min line 5 : Nat) : Int)) = false := by rw [hf]; simp
  have HMIN := hide hmin
  clear h1 h2 h3 h4 hf hwf hwz hmin
  go_enter Trym.func4, Trym.ntmps4
  go_wp2_with fail
  refine (zb12_yes _ _ _ _ _ _ _ _ _ _ _ _ _ _ _ _ _ _ _ _ _ (by omega) hk hr hz).mono ?_
  rintro e w' ⟨rfl, rfl⟩
  go_wp2_with fail
  refine (min_any line _).mono ?_
  rintro e w' ⟨rfl, rfl⟩
  have hmin := HMIN.out
  clear HMIN
  go_wp2_with fail
  refine (clone_own a1 c1 f _ H1.out (by omega)).mono ?_
  rintro e w1 ⟨f1, cf1, rfl, o1, k1, n1⟩
  go_wp2_with fail
  refine (clone_own a2 c2 S0.key _ (H2.out.kept k1) (by omega)).mono ?_
  rintro e w2 ⟨y1, cy1, rfl, o2, k2, n2⟩
  have k2' : Only w w2 (fun _ => False) := k1.trans k2 (fun _ _ f => f)
  go_wp2_with fail
  refine (clone_own a3 c3 S0.raw _ (H3.out.kept k2') (by omega)).mono ?_
  rintro e w3 ⟨r1, cr1, rfl, o3, k3, n3⟩
  have k3' : Only w w3 (fun _ => False) := k2'.trans k3 (fun _ _ f => f)
  go_wp2_with fail
  refine (clone_own a4 c4 z _ (H4.out.kept k3') (by omega)).mono ?_
  rintro e w4 ⟨p1, cp1, rfl, o4, k4, n4⟩
  have k4' : Only w w4 (fun _ => False) := k3'.trans k4 (fun _ _ f => f)
  have OF4 := hide (((o1.kept k2 (fun _ _ f => f)).kept k3 (fun _ _ f => f)).kept k4 (fun _ _ f => f))
  have OY4 := hide ((o2.kept k3 (fun _ _ f => f)).kept k4 (fun _ _ f => f))
  have OR4 := hide (o3.kept k4 (fun _ _ f => f))
  have OP4 := hide o4
  have B4 := hide k4'
  clear o1 k1 n1 o2 k2 n2 o3 k3 n3 o4 k4 n4 k2' k3' k4' H1 H2 H3 H4
  go_wp2_with fail
  refine (data_any f1 cf1 f w4 OF4.out.rd HWF.out (by omega)).mono ?_
  rintro e w' ⟨rfl, rfl⟩
  go_wp2_with fail
  refine (clone_own f1 cf1 f _ OF4.out.cl (by omega)).mono ?_
  rintro e w5 ⟨g1, cg1, rfl, o5, k5, n5⟩
  go_wp2_with fail
  refine (clone_own y1 cy1 S0.key _ (OY4.out.kept k5 (fun _ _ f => f)).cl (by omega)).mono ?_
  rintro e w6 ⟨g2, cg2, rfl, o6, k6, n6⟩
  have k6' : Only w4 w6 (fun _ => False) := k5.trans k6 (fun _ _ f => f)
  go_wp2_with fail
  refine (clone_own r1 cr1 S0.raw _ (OR4.out.kept k6' (fun _ _ f => f)).cl (by omega)).mono ?_
  rintro e w7 ⟨g3, cg3, rfl, o7, k7, n7⟩
  have k7' : Only w4 w7 (fun _ => False) := k6'.trans k7 (fun _ _ f => f)
  go_wp2_with fail
  refine (mkscan_any S0 g2 cg2 g3 cg3 w7).mono ?_
  rintro e w8 ⟨rfl, k8⟩
  have k8' : Only w4 w8 (fun _ => False) := k7'.trans k8 (fun _ _ f => f)
  have R8 : Rows3 w8 g1 cg1 g2 cg2 g3 cg3 ⟨line, f, S0⟩ := by
    have a5 := k5.size
    have a6 := k6.size
    refine ⟨((o5.kept k6 (fun _ _ f => f)).kept k7 (fun _ _ f => f)).kept k8 (fun _ _ f => f), (o6.kept k7 (fun _ _ f => f)).kept k8 (fun _ _ f => f), o7.kept k8 (fun _ _ f => f), ?_, ?_, ?_⟩
    · intro g hg hg'
      have := o6.lt hg
      have := n7 g hg'
      omega
    · intro g hg hg'
      have := o5.lt hg
      have := n6 g hg'
      omega
    · intro g hg hg'
      have := o5.lt hg
      have := n7 g hg'
      omega
  have N8 : ∀ g, Foot3 g1 g2 g3 g → w4.heap.size ≤ g := by
    have a5 := k5.size
    have a6 := k6.size
    intro g hg
    rcases hg with hg | hg | hg
    · exact n5 g hg
    · have := n6 g hg; omega
    · have := n7 g hg; omega
  obtain ⟨O, hO⟩ : ∃ O, O = splitL ⟨line, f, S0⟩ z := ⟨_, rfl⟩
  have Z1 := zz_any w8 ⟨line, f, S0⟩ g1 cg1 g2 cg2 g3 cg3 R8 p1 cp1 z (by omega) (by show line ≤ _; omega) HF.out HWZ.out ((OP4.out.kept k8' (fun _ _ f => f)).prow (fun g hg hF => by have := N8 g hF; have := OP4.out.lt hg; omega))
  rw [← hO] at Z1
  obtain ⟨⟨L, F, T⟩, n, ok, dl⟩ := O
  have HO := hide hO
  have HZ1 := hide Z1
  have HK8 := hide (And.intro k8' N8)
  clear hO Z1 k8' N8 k8 k7' k7 k6' k6 k5 o5 o6 o7 n5 n6 n7 R8
  simp only [fld]
  go_wp2_with fail
  refine HZ1.out.mono ?_
  rintro e w9 ⟨fa, fc, ka, kc, ra, rc, rfl, l9⟩
  have L9 := hide l9
  clear l9 HZ1
  simp only [fldE, fld]
  have hmk := make_zero z.length (by omega)
  go_upto_block 0 with fail
  clear hmk
  generalize hwa : (w9.alloc (.cells #[.int .i64 ↑L, .slice fa F.length fc, .bool (isData F)] 35)).alloc (.cells #[.int .i64 T.depth, .bool T.str, .bool T.esc, .int .i64 T.pos, .bool T.inKey, .slice ka T.key.length kc, .bool T.inID, .slice ra T.raw.length rc, .bool T.method] 26) = wa
  generalize he1 : w9.heap.size = e1
  generalize hs1 : e1 + 1 = s1
  have k9a : Only w9 wa (fun _ => False) := by rw [← hwa]; exact ((Only.refl w9 _).alloc _).alloc _
  have heA : wa.heap[e1]? = some (.cells #[.int .i64 ↑L, .slice fa F.length fc, .bool (isData F)] 35 (0, 0)) := by
    rw [← hwa, ← he1, Below.heap_alloc _ _ _ (by simp)]
    exact Go.heap_alloc_new w9 _
  have hsA : wa.heap[s1]? = some (.cells (fld T ka kc ra rc) 26 (0, 0)) := by
    rw [← hwa, ← hs1, ← he1]
    show ((w9.alloc (.cells #[.int .i64 ↑L, .slice fa F.length fc, .bool (isData F)] 35)).alloc (.cells (fld T ka kc ra rc) 26)).heap[w9.heap.size + 1]? = _
    have := Go.heap_alloc_new (w9.alloc (.cells #[.int .i64 ↑L, .slice fa F.length fc, .bool (isData F)] 35)) (.cells (fld T ka kc ra rc) 26)
    simpa using this
  have hszA : wa.heap.size = s1 + 1 := by rw [← hwa, ← hs1, ← he1]; simp
  have b4a : Only w4 wa (fun _ => False) := by
    refine ((HK8.out.1.trans L9.out.2.1 ?_).trans k9a (fun _ _ f => f))
    intro b hb hF
    have := HK8.out.2 b hF
    omega
  have SA := hide (sees_of (L9.out.1.field.kept k9a (fun _ _ f => f)) (L9.out.1.key.kept k9a (fun _ _ f => f)) (L9.out.1.raw.kept k9a (fun _ _ f => f)) heA hsA)
  have OFA := hide (OF4.out.kept b4a (fun _ _ f => f))
  have OYA := hide (OY4.out.kept b4a (fun _ _ f => f))
  have ORA := hide (OR4.out.kept b4a (fun _ _ f => f))
  have OPA := hide (OP4.out.kept b4a (fun _ _ f => f))
  have BA := hide (B4.out.trans b4a (fun _ _ f => f))
  have OM : Own (wa.alloc (.cells (madeCells #[.int .u8 0] z.length) 5)) (some ⟨s1 + 1, 0, none⟩) z.length [] := by rw [← hszA]; exact own_made wa z.length (by omega)
  have HOM := hide OM
  have HSZ := hide hszA
  clear hwa he1 hs1 k9a heA hsA b4a L9 HK8 B4 OF4 OY4 OR4 OP4 OM hszA
  go_cut [31, 35, 36, 37, 38, 39] from 124 to 185 (fun v31 v35 v36 v37 v38 v39 wc => ∃ (pay : List Int) (pa : Option Addr) (pc : Nat) (wf : Option Addr) (wfc : Nat), v31 = .slice pa pay.length pc ∧ v35 = .int .i64 n ∧ v36 = .bool ok ∧ v37 = .int .i64 dl ∧ v38 = .int .i64 L ∧ v39 = .slice wf F.length wfc ∧ pay.length ≤ 65536 ∧ F.length ≤ 5 ∧
      Hid (Own wc pa pc pay) ∧ Hid (∀ g, blk pa = some g → wa.heap.size ≤ g) ∧ Hid (Rd wc wf F) ∧ Hid (Only wa wc (fun _ => False)) ∧ Hid (T = feedL S0 pay) ∧ Hid (∀ x ∈ pay, 0 ≤ x ∧ x ≤ 255) ∧ Hid (∀ x ∈ F, 0 ≤ x ∧ x ≤ 255))
  case first =>
    go_wp2_with fail
    go_loopw [31, 32, 33, 34, 35, 36, 37, 38, 39] (fun v31 v32 v33 v34 v35 v36 v37 v38 v39 wr => ∃ (pos : Nat) (pay : List Int) (pa : Option Addr) (pc : Nat) (head : List Int) (ha : Option Addr) (hc : Nat) (hl : Nat), v31 = .slice pa pay.length pc ∧ v32 = .slice ha head.length hc ∧ v33 = .int .i64 hl ∧ v34 = .int .i64 pos ∧ v35 = .int .i64 z.length ∧ v36 = .bool false ∧ v37 = .int .i64 0 ∧ v38 = .int .i64 0 ∧ v39 = .slice none 0 0 ∧ pos ≤ z.length ∧ hl ≤ 1073741824 ∧ pay.length ≤ pos ∧ head.length ≤ 5 ∧
        Hid (head.length = min hl 5) ∧ Hid (Own wr pa pc pay) ∧ Hid (PRow wa ha hc head (fun _ => False)) ∧ Hid (Only wa wr (fun _ => False)) ∧ Hid (∀ g, blk pa = some g → wa.heap.size ≤ g) ∧ Hid ((⟨⟨L, F, T⟩, n, ok, dl⟩ : Out) = (splitL ⟨hl, head, feedL S0 pay⟩ (z.drop pos)).more pos) ∧ Hid (∀ x ∈ pay, 0 ≤ x ∧ x ≤ 255) ∧ Hid (∀ x ∈ head, 0 ≤ x ∧ x ≤ 255)) (fun _ _ _ v34 _ _ _ _ _ _ => z.length - (intOf v34).toNat)
    case atStart =>
      refine ⟨0, [], some ⟨s1 + 1, 0, none⟩, z.length, f, f1, cf1, line, rfl, rfl, rfl, rfl, rfl, rfl, rfl, rfl, rfl, Nat.zero_le _, hline, Nat.zero_le _, hf5, HF, HOM, hide (OFA.out.prow (fun _ _ f => f)), hide ((Only.refl wa _).alloc _), fun g hg => ?_, hide (by rw [List.drop_zero, more_zero, feedL_nil]; exact HO.out), hide (by simp), HWF⟩
      have := HSZ.out
      simp [blk] at hg
      omega
    case round =>
      revert hrel
      generalize wr = wo
      intro hrel
      obtain ⟨pos, pay, pa, pc, head, ha, hc, hl, rfl, rfl, rfl, rfl, rfl, rfl, rfl, rfl, rfl, hpos, hhl, hpay, hh5, HHL, OPY, PHD, KO, NPY, HSP, HWP, HWH⟩ := hrel
      clear HOM HO
      go_upto_block 2 with fail
      go_cut [40] from 124 to 185 (fun v40 wx => ∃ k : Nat, v40 = .int .i64 k ∧ pos ≤ k ∧ k ≤ z.length ∧ Hid (∀ j, pos ≤ j → j < k → z.getD j 0 ≠ 10) ∧ Hid (k = z.length ∨ (k < z.length ∧ z.getD k 0 = 10)) ∧ wo = wx)
      case first =>
        go_wp2_with fail
        go_loopw [40] (fun v40 wi => ∃ k : Nat, v40 = .int .i64 k ∧ pos ≤ k ∧ k ≤ z.length ∧ Hid (∀ j, pos ≤ j → j < k → z.getD j 0 ≠ 10) ∧ wo = wi) (fun v40 _ => z.length - (intOf v40).toNat)
        case atStart => exact ⟨pos, rfl, Nat.le_refl _, hpos, fun j h1 h2 => by omega, rfl⟩
        case round =>
          obtain ⟨k, rfl, hk1, hk2, HN, rfl⟩ := hrel
          by_cases hlt : k < z.length
          · obtain ⟨gp, rfl, hcx⟩ := (OPA.out.kept KO.out (fun _ _ f => f)).get k hlt
            by_cases h10 : z.getD k 0 = 10
            · rw [h10] at hcx
              have H10 := hide h10
              clear h10
              go_wp2_with fail
              go_meet
              exact ⟨k, rfl, hk1, hk2, HN, hide (.inr ⟨hlt, H10.out⟩), rfl⟩
            · have HN' : Hid (∀ j, pos ≤ j → j < k + 1 → z.getD j 0 ≠ 10) := fun j h1 h2 => by
                by_cases hj : j = k
                · rw [hj]; exact h10
                · exact HN.out j h1 (by omega)
              generalize z.getD k 0 = x at hcx h10
              have hb10 : (x != 10) = true := by simpa using h10
              clear h10
              go_wp2_with fail
              go_roundw
              case rel => exact ⟨k + 1, by go_num, by omega, by omega, HN', trivial⟩
              case measure => simp [intOf]; omega
          · obtain rfl : k = z.length := by omega
            go_wp2_with fail
            go_meet
            exact ⟨z.length, rfl, hk1, hk2, HN, hide (.inl rfl), rfl⟩
      case rest =>
        obtain ⟨k, rfl, hk1, hk2, HN, HEND, rfl⟩ := hcut
        obtain ⟨seg, hseg⟩ : ∃ seg, seg = (z.drop pos).take (k - pos) := ⟨_, rfl⟩
        have hsl : seg.length = k - pos := by rw [hseg]; exact seg_len z pos k hk2
        have HSEG := hide hseg
        have HSN := hide (seg_no z pos k HN.out)
        rw [← hseg] at HSN
        have HSW : Hid (∀ x ∈ seg, 0 ≤ x ∧ x ≤ 255) := fun x hx => HWZ.out x (List.mem_of_mem_drop (List.mem_of_mem_take (by rw [hseg] at hx; exact hx)))
        have hcp : z.length ≤ cp1 := OPA.out.le
        clear hseg HN
        go_upto_region 34 with fail
        go_cut [41] from 124 to 185 (fun v41 wx => ∃ (sa : Option Addr) (sc : Nat), v41 = .slice sa seg.length sc ∧ Hid (PRow wo sa sc seg (fun q => wa.heap.size ≤ q)) ∧ wo = wx)
        case first =>
          rcases OPA.out.form with ⟨rfl, rfl, rfl⟩ | ⟨gp, cur, rfl, _⟩
          · obtain rfl : pos = 0 := by simpa using hpos
            obtain rfl : k = 0 := by simpa using hk2
            obtain rfl : seg = [] := List.eq_nil_of_length_eq_zero (by omega)
            go_wp2_with fail
            go_meet
            exact ⟨none, 0, rfl, hide (PRow.nil_ _ _ _ _), rfl⟩
          · by_cases hc0 : cp1 = pos
            · obtain rfl : k = pos := by omega
              obtain rfl : seg = [] := List.eq_nil_of_length_eq_zero (by omega)
              have hc0' : cp1 - k = 0 := by omega
              go_wp2_with fail
              go_meet
              exact ⟨_, _, by simp; exact ⟨rfl, rfl⟩, hide (PRow.nil_ _ _ _ _), rfl⟩
            · have hc0' : ¬ cp1 - pos = 0 := by omega
              go_wp2_with fail
              go_meet
              refine ⟨some ⟨gp, pos, none⟩, cp1 - pos, by rw [hsl], hide ?_, rfl⟩
              rw [HSEG.out]
              exact ((OPA.out.kept KO.out (fun _ _ f => f)).prow_drop pos hpos (fun f => by have := OPA.out.lt (g := gp) rfl; omega)).take_ _
        case rest =>
          obtain ⟨sa, sc, rfl, PS, rfl⟩ := hcut
          have HSL := hide hsl
          have HCP := hide hcp
          have hsl2 : seg.length ≤ 65536 := by omega
          clear hsl hcp
          go_wp2_with fail
          refine (first_any ha hc head sa sc seg wo (PRow.kept PHD.out KO.out) (PRow.off PS.out) hh5 (by omega)).mono ?_
          rintro e wf1 ⟨wf, wfc, rfl, of1, kf1, nf1⟩
          have KF : Hid (Only wa wf1 (fun _ => False)) := KO.out.trans kf1 (fun _ _ f => f)
          have OPF := hide (OPY.out.kept kf1 (fun _ _ f => f))
          have PSF := hide (PRow.wide PS.out kf1)
          have OWF := hide of1
          have APF : Hid (∀ g, blk pa = some g → blk wf ≠ some g) := fun g hg hg' => by have := nf1 g hg'; have := OPY.out.lt hg; omega
          have HFL := hide (first_len head seg hl HHL.out)
          have HFW := hide (first_bytes head seg HWH.out HSW.out)
          clear of1 kf1 nf1 OPY PS PHD
          go_wp2_with fail
          refine (data_any wf wfc (firstL head seg) wf1 OWF.out.rd HFW.out (by rw [HFL.out]; omega)).mono ?_
          rintro e w' ⟨rfl, rfl⟩
          go_upto_if 154 with fail
          go_cut [31] from 124 to 185 (fun v31 wx => ∃ (pa' : Option Addr) (pc' : Nat), v31 = .slice pa' (payL pay head seg).length pc' ∧ Hid (Own wx pa' pc' (payL pay head seg)) ∧ Hid (Own wx wf wfc (firstL head seg)) ∧ Hid (Only wa wx (fun _ => False)) ∧ Hid (∀ g, blk pa' = some g → wa.heap.size ≤ g))
          case first =>
            cases hd : isData (firstL head seg) with
            | false =>
              go_wp2_with fail
              go_meet
              have e : payL pay head seg = pay := by unfold payL; rw [hd]; rfl
              rw [e]
              exact ⟨pa, pc, rfl, OPF, OWF, KF, NPY⟩
            | true =>
              have e : payL pay head seg = pay ++ seg.drop (5 - head.length) := by unfold payL; rw [hd]; rfl
              have h5 := isData_len _ hd
              rw [HFL.out] at h5
              have hhl2 := HHL.out
              have hdl : (seg.drop (5 - head.length)).length = seg.length - (5 - head.length) := by rw [List.length_drop]
              have hle : 5 - head.length ≤ seg.length := by omega
              have hscl : seg.length ≤ sc := PSF.out.1
              have HPS := hide (PRow.mono PSF.out (G := fun q => blk pa = some q) (fun q _ hq => NPY.out q hq))
              have hpl : pay.length ≤ 1000000 := by omega
              clear h5 hhl2
              by_cases hc5 : sc - (5 - head.length) = 0
              · go_wp2_with fail
                have AP := append_any pa pc pay sa 0 (seg.drop (5 - head.length)) wf1 OPF.out (PRow.drop0 HPS.out _ hc5) hpl (by omega)
                rw [hdl] at AP
                refine AP.mono ?_
                rintro e2 w2 ⟨pa', pc', rfl, oa, ka, na⟩
                rw [← e] at oa
                have OA := hide oa
                have KA := hide ka
                have NA := hide na
                clear oa ka na AP
                go_wp2_with fail
                go_meet
                refine ⟨pa', pc', by rw [e, List.length_append, List.length_drop], OA, hide (OWF.out.kept KA.out (fun q hq hq' => APF.out q hq' hq)), hide (KF.out.trans KA.out (fun q hq hq' => ?_)), fun q hq => ?_⟩
                · have := NPY.out q hq'
                  omega
                · rcases NA.out q hq with h | h
                  · exact NPY.out q h
                  · have := KF.out.size
                    omega
              · go_wp2_with fail
                have AP := append_any pa pc pay _ _ (seg.drop (5 - head.length)) wf1 OPF.out (PRow.dropv HPS.out _ hle) hpl (by omega)
                rw [hdl] at AP
                refine AP.mono ?_
                rintro e2 w2 ⟨pa', pc', rfl, oa, ka, na⟩
                rw [← e] at oa
                have OA := hide oa
                have KA := hide ka
                have NA := hide na
                clear oa ka na AP
                go_wp2_with fail
                go_meet
                refine ⟨pa', pc', by rw [e, List.length_append, List.length_drop], OA, hide (OWF.out.kept KA.out (fun q hq hq' => APF.out q hq' hq)), hide (KF.out.trans KA.out (fun q hq hq' => ?_)), fun q hq => ?_⟩
                · have := NPY.out q hq'
                  omega
                · rcases NA.out q hq with h | h
                  · exact NPY.out q h
                  · have := KF.out.size
                    omega
          case rest =>
            obtain ⟨pa', pc', rfl, OPN, OWN, KN, NPN⟩ := hcut
            clear OPF OWF KF NPY PSF APF OPA OFA OYA ORA BA SA
            rcases HEND.out with hke | ⟨hke, h10⟩
            · subst hke
              go_wp2_with fail
              go_meet
              obtain ⟨m1, m2, m3, m4, m5, m6⟩ := model_end S0 hl head pay z pos L F T n ok dl hh5 HSP.out hpos seg HSEG.out HSN.out
              have hpl := pay_len pay head seg
              have hsl := HSL.out
              have hfl := HFL.out
              refine ⟨payL pay head seg, pa', pc', wf, wfc, rfl, by rw [m4], by rw [m5], by rw [m6]; rfl, by rw [m1, Int.natCast_add], by rw [m2], by omega, by rw [m2]; omega, OPN, NPN, by rw [m2]; exact hide OWN.out.rd, KN, hide m3, hide (pay_bytes pay head seg HWP.out HSW.out), by rw [m2]; exact HFW⟩
            · have hb : ((k : Int) == (z.length : Int)) = false := by simpa using (by omega : ¬ (k : Int) = (z.length : Int))
              have H10 := hide h10
              clear h10
              by_cases t0 : (hl : Int) + (seg.length : Int) = 0
              · have t0' : ((hl : Int) + (seg.length : Int) == 0) = true := by simpa using t0
                have T0 := hide t0
                clear t0
                go_wp2_with fail
                go_meet
                have tt := T0.out
                obtain ⟨m1, m2, m3, m4, m5, m6⟩ := (model_line S0 hl head pay z pos k L F T n ok dl hh5 HSP.out hk1 hke H10.out seg HSEG.out HSN.out).1 (blank_0 _ _ _ _ tt)
                have hpl := pay_len pay head seg
                have hsl := HSL.out
                refine ⟨payL pay head seg, pa', pc', none, 0, rfl, by rw [m4, Int.natCast_add]; rfl, by rw [m5], by rw [m6, Int.natCast_add, Int.natCast_add]; rfl, by rw [m1]; rfl, by rw [m2]; rfl, by omega, by rw [m2]; simp, OPN, NPN, by rw [m2]; exact hide (.inl rfl), KN, hide m3, hide (pay_bytes pay head seg HWP.out HSW.out), by rw [m2]; exact hide (by simp)⟩
              · have t0' : ((hl : Int) + (seg.length : Int) == 0) = false := by simpa using t0
                have T0 := hide t0
                clear t0
                by_cases t1 : (hl : Int) + (seg.length : Int) = 1
                · have t1' : ((hl : Int) + (seg.length : Int) == 1) = true := by simpa using t1
                  have hf0 : 0 < (firstL head seg).length := by rw [HFL.out]; omega
                  obtain ⟨gw, rfl, hcw⟩ := OWN.out.get 0 hf0
                  have T1 := hide t1
                  clear t1
                  by_cases t2 : (firstL head seg).getD 0 0 = 13
                  · rw [t2] at hcw
                    have T2 := hide t2
                    clear t2
                    go_wp2_with fail
                    go_meet
                    have tt := T1.out
                    have t2 := T2.out
                    obtain ⟨m1, m2, m3, m4, m5, m6⟩ := (model_line S0 hl head pay z pos k L F T n ok dl hh5 HSP.out hk1 hke H10.out seg HSEG.out HSN.out).1 (blank_1 _ _ _ _ tt t2)
                    have hpl := pay_len pay head seg
                    have hsl := HSL.out
                    refine ⟨payL pay head seg, pa', pc', none, 0, rfl, by rw [m4, Int.natCast_add]; rfl, by rw [m5], by rw [m6, Int.natCast_add, Int.natCast_add]; rfl, by rw [m1]; rfl, by rw [m2]; rfl, by omega, by rw [m2]; simp, OPN, NPN, by rw [m2]; exact hide (.inl rfl), KN, hide m3, hide (pay_bytes pay head seg HWP.out HSW.out), by rw [m2]; exact hide (by simp)⟩
                  · have T2 := hide t2
                    generalize (firstL head seg).getD 0 0 = x at hcw t2
                    have t2' : (x == 13) = false := by simpa using t2
                    clear t2
                    go_wp2_with fail
                    go_roundw
                    case rel =>
                      have tt := T1.out
                      have t2 := T2.out
                      have hpl := pay_len pay head seg
                      have hsl := HSL.out
                      have hm := (model_line S0 hl head pay z pos k L F T n ok dl hh5 HSP.out hk1 hke H10.out seg HSEG.out HSN.out).2 (blank_n1 _ _ _ _ tt t2)
                      exact ⟨k + 1, payL pay head seg, pa', pc', [], none, 0, 0, rfl, rfl, rfl, by go_num, rfl, rfl, rfl, rfl, rfl, by omega, by omega, by omega, by simp, hide (by simp), OPN, hide (PRow.nil_ _ _ _ _), KN, NPN, hide hm, hide (pay_bytes pay head seg HWP.out HSW.out), hide (by simp)⟩
                    case measure => simp [intOf]; omega
                · have t1' : ((hl : Int) + (seg.length : Int) == 1) = false := by simpa using t1
                  have T1 := hide t1
                  clear t1
                  go_wp2_with fail
                  go_roundw
                  case rel =>
                    have tt := T1.out
                    have t0 := T0.out
                    have hpl := pay_len pay head seg
                    have hsl := HSL.out
                    have hm := (model_line S0 hl head pay z pos k L F T n ok dl hh5 HSP.out hk1 hke H10.out seg HSEG.out HSN.out).2 (blank_n _ _ _ _ t0 tt)
                    exact ⟨k + 1, payL pay head seg, pa', pc', [], none, 0, 0, rfl, rfl, rfl, by go_num, rfl, rfl, rfl, rfl, rfl, by omega, by omega, by omega, by simp, hide (by simp), OPN, hide (PRow.nil_ _ _ _ _), KN, NPN, hide hm, hide (pay_bytes pay head seg HWP.out HSW.out), hide (by simp)⟩
                  case measure => simp [intOf]; omega
  case rest =>
    obtain ⟨pay, pa, pc, wf, wfc, rfl, rfl, rfl, rfl, rfl, rfl, hpay, hF5, OPC, NPC, RFC, KC, HT, HWP, HWFF⟩ := hcut
    have OYC := hide (OYA.out.kept KC.out (fun _ _ f => f))
    have ORC := hide (ORA.out.kept KC.out (fun _ _ f => f))
    have SC := hide (SA.out.kept KC.out)
    have KWC := hide (BA.out.trans KC.out (fun _ _ f => f))
    clear OYA ORA SA BA KC OFA OPA HOM HSZ NPC HO
    go_wp2_with fail
    refine (clone_own y1 cy1 S0.key _ OYC.out.cl (by omega)).mono ?_
    rintro e x1 ⟨q2, cq2, rfl, o1, k1, n1⟩
    go_wp2_with fail
    refine (clone_own r1 cr1 S0.raw _ (ORC.out.kept k1 (fun _ _ f => f)).cl (by omega)).mono ?_
    rintro e x2 ⟨q3, cq3, rfl, o2, k2, n2⟩
    go_wp2_with fail
    refine (mkscan_any S0 q2 cq2 q3 cq3 x2).mono ?_
    rintro e x3 ⟨rfl, k3⟩
    have kx : Only wc x3 (fun _ => False) := (k1.trans k2 (fun _ _ f => f)).trans k3 (fun _ _ f => f)
    have z1 := k1.size
    have nq : ∀ g, Foot2 q2 q3 g → wc.heap.size ≤ g := by
      intro g hg
      rcases hg with hg | hg
      · exact n1 g hg
      · have := n2 g hg; omega
    have ZF := zzfeed_any x3 S0 q2 cq2 q3 cq3 ((o1.kept k2 (fun _ _ f => f)).kept k3 (fun _ _ f => f)) (o2.kept k3 (fun _ _ f => f)) (fun g hg hg' => by have := o1.lt hg; have := n2 g hg'; omega) pa pc pay (by omega) HWP.out ((OPC.out.kept kx (fun _ _ f => f)).prow (fun g hg hF => by have := nq g hF; have := OPC.out.lt hg; omega))
    rw [← HT.out] at ZF
    have HZF := hide ZF
    have HKX := hide (And.intro kx nq)
    have hT : Big T := by rw [HT.out]; exact feedL_big pay S0 ⟨hk, hr⟩
    have HBT := hide hT
    clear ZF kx nq z1 k1 k2 k3 o1 o2 n1 n2 hT HT
    simp only [fld]
    go_wp2_with fail
    refine HZF.out.mono ?_
    rintro e x4 ⟨ka', kc', ra', rc', rfl, ok4, or4, k4⟩
    have kc4 : Only wc x4 (fun _ => False) := HKX.out.1.trans k4 (fun g hg hF => by have := HKX.out.2 g hF; omega)
    have hnn : ((n : Int) != (n : Int)) = false := by simp
    have hoo : (ok != ok) = false := by simp
    have hdd : ((dl : Int) != (dl : Int)) = false := by simp
    have K4 := hide kc4
    have OK4 := hide ok4
    have OR4 := hide or4
    clear kc4 ok4 or4 k4 HZF HKX
    simp only [fld]
    go_upto_region 52 with fail
    generalize hx5 : x4.alloc (.cells #[.int .i64 T.depth, .bool T.str, .bool T.esc, .int .i64 T.pos, .bool T.inKey, .slice ka' T.key.length kc', .bool T.inID, .slice ra' T.raw.length rc', .bool T.method] 26) = x5
    generalize hs2 : x4.heap.size = s2
    have k45 : Only x4 x5 (fun _ => False) := by rw [← hx5]; exact (Only.refl x4 _).alloc _
    have hs5 : x5.heap[s2]? = some (.cells (fld T ka' kc' ra' rc') 26 (0, 0)) := by
      rw [← hx5, ← hs2]
      exact Go.heap_alloc_new x4 _
    have S5 := hide ((SC.out.kept K4.out).kept k45)
    have RW5 := hide ((RFC.out.kept K4.out (fun _ _ f => f)).kept k45 (fun _ _ f => f))
    have RK5 := hide ((OK4.out.kept k45 (fun _ _ f => f)).rd)
    have RR5 := hide ((OR4.out.kept k45 (fun _ _ f => f)).rd)
    have B5 := hide ((KWC.out.trans K4.out (fun _ _ f => f)).trans k45 (fun _ _ f => f))
    obtain ⟨cs5, -⟩ := told hs5
    simp only [fld] at cs5
    have v0 := cs5 0
    have v1 := cs5 1
    have v2 := cs5 2
    have v3 := cs5 3
    have v4 := cs5 4
    have v5 := cs5 5
    have v6 := cs5 6
    have v7 := cs5 7
    have v8 := cs5 8
    simp at v0 v1 v2 v3 v4 v5 v6 v7 v8
    obtain ⟨-, -, -, y0, y1, y2, u0, u1, u2, u3, u4, u5, u6, u7, u8⟩ := S5.out
    clear cs5 hs5 k45 hx5 hs2 K4 OK4 OR4 SC RFC KWC OYC ORC OPC HWP hnn hoo hdd
    have hLL : ((L : Int) != (L : Int)) = false := by simp
    have hII : (isData F != isData F) = false := by simp
    have HF6 : Hid (F.length ≤ 1048576) := hide (by omega)
    go_region_held3 (fun w' => w'.cell? ⟨e1, 0, none⟩ = some (.int .i64 L) ∧ w'.cell? ⟨e1, 1, none⟩ = some (.slice fa F.length fc) ∧ w'.cell? ⟨e1, 2, none⟩ = some (.bool (isData F))) (go_keep)
      (first | (go_at_call 19; refine (equal_same fa wf fc wfc F _ HF6.out (S5.out.rf.kept (F := (fun _ => False)) (by repeat (first | refine Only.drew ?_ | refine Only.drewN ?_ _ | exact Only.refl _ _)) (fun _ _ f => f)) (Rd.kept RW5.out (F := (fun _ => False)) (by repeat (first | refine Only.drew ?_ | refine Only.drewN ?_ _ | exact Only.refl _ _)) (fun _ _ f => f))).mono ?_; rintro e y ⟨rfl, nn, rfl⟩) | (go_at_call 14; refine (data_any wf wfc F _ (Rd.kept RW5.out (F := (fun _ => False)) (by repeat (first | refine Only.drew ?_ | refine Only.drewN ?_ _ | exact Only.refl _ _)) (fun _ _ f => f)) HWFF.out HF6.out).mono ?_; rintro e y ⟨rfl, rfl⟩))
    go_wp2_with fail
    refine (scaneq_same _ T ka kc ra rc ka' kc' ra' rc' (S5.out.rk.kept (F := (fun _ => False)) (by repeat (first | refine Only.drew ?_ | refine Only.drewN ?_ _ | exact Only.refl _ _)) (fun _ _ f => f)) (Rd.kept RK5.out (F := (fun _ => False)) (by repeat (first | refine Only.drew ?_ | refine Only.drewN ?_ _ | exact Only.refl _ _)) (fun _ _ f => f)) (S5.out.rr.kept (F := (fun _ => False)) (by repeat (first | refine Only.drew ?_ | refine Only.drewN ?_ _ | exact Only.refl _ _)) (fun _ _ f => f)) (Rd.kept RR5.out (F := (fun _ => False)) (by repeat (first | refine Only.drew ?_ | refine Only.drewN ?_ _ | exact Only.refl _ _)) (fun _ _ f => f)) (by have := HBT.out.1; omega) (by have := HBT.out.2; omega)).mono ?_
    rintro e x9 ⟨rfl, k9⟩
    have K9 := hide k9
    clear k9
    go_wp2_with fail
    go_ret
    refine ⟨rfl, ?_⟩
    exact (Only.trans (F := (fun _ => False)) (G := (fun _ => False)) (by repeat (with_reducible first | refine Only.drew ?_ | refine Only.drewN ?_ _ | exact B5.out)) K9.out (fun _ _ f => f)).below (fun _ f => f.elim) (Nat.le_refl _)

end Go.Proofs.Qxb6603984aMods
