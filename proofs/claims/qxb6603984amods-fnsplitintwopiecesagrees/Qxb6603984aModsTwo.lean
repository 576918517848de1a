/-
  THE WALK OF FnSplitInTwoPiecesAgrees.
-/
import Derived.Test.Qxb6603984aModsTwoR
import Derived.Test.Qxb6603984aModsTwoS
import Derived.Test.Qxb6603984aModsTwoM
import Derived.Deep.Light
import Derived.Deep.RegionHeld3
import Derived.Deep.Cut
namespace Go.Proofs.Qxb6603984aMods
open Go.RowKit Plain

set_option maxHeartbeats 16000000 in
set_option maxRecDepth 100000 in
theorem two_main (line : Nat) (a1 : Option Addr) (c1 : Nat) (f : List Int) (a2 : Option Addr) (c2 : Nat) (z : List Int) (k : Nat) (w : World) (h1 : Cl w a1 c1 f) (h2 : Cl w a2 c2 z)
    (hline : line ≤ 1073741824) (hf : f.length = min line 5) (hz : z.length ≤ 65536) (hk : k ≤ z.length) (hwf : ∀ x ∈ f, 0 ≤ x ∧ x ≤ 255) (hwz : ∀ x ∈ z, 0 ≤ x ∧ x ≤ 255) :
    Calls Trym.prog 5 #[.int .i64 line, .slice a1 f.length c1, .slice a2 z.length c2, .int .i64 k] w fun e w' => e = .returned (.bool true) ∧ Below w.heap.size w w' := by
  have H1 := hide h1
  have H2 := hide h2
  have HF := hide hf
  have HWF := hide hwf
  have HWZ := hide hwz
  have hf5 : f.length ≤ 5 := by omega
  have hmin : ((f.length : Int) != ((min line 5 : Nat) : Int)) = false := by rw [hf]; simp
  have HMIN := hide hmin
  clear h1 h2 hf hwf hwz hmin
  go_enter Trym.func5, Trym.ntmps5
  go_wp2_with fail
  refine (zb20_yes _ _ _ _ _ _ _ _ _ (by omega) hz).mono ?_
  rintro e w' ⟨rfl, rfl⟩
  go_wp2_with fail
  refine (min_any line _).mono ?_
  rintro e w' ⟨rfl, rfl⟩
  have hmin := HMIN.out
  clear HMIN
  go_wp2_with fail
  refine (clone_own a1 c1 f _ H1.out (by omega)).mono ?_
  rintro e w1 ⟨f1, cf1, rfl, o1, k1, n1⟩
  go_wp2_with fail
  refine (clone_own a2 c2 z _ (H2.out.kept k1) (by omega)).mono ?_
  rintro e w2 ⟨p1, cp1, rfl, o2, k2, n2⟩
  have OF2 : Own w2 f1 cf1 f := o1.kept k2 (fun _ _ f => f)
  have hf1 : ∀ g, blk f1 = some g → g < w2.heap.size := fun g hg => OF2.lt hg
  have hp1 : ∀ g, blk p1 = some g → g < w2.heap.size := fun g hg => o2.lt hg
  have hfp : ∀ g, blk f1 = some g → blk p1 ≠ some g := fun g hg hg' => by have := n2 g hg'; have := o1.lt hg; omega
  have hfw : ∀ g, blk f1 = some g → w.heap.size ≤ g := n1
  have hpw : ∀ g, blk p1 = some g → w.heap.size ≤ g := fun g hg => by have := n2 g hg; have := k1.size; omega
  have B2 : Hid (Only w w2 (fun _ => False)) := k1.trans k2 (fun _ _ f => f)
  have OP2 := hide o2
  have HOF2 := hide OF2
  clear o1 k1 n1 o2 k2 n2 OF2
  have HX := hide (And.intro hf1 (And.intro hp1 (And.intro hfp (And.intro hfw hpw))))
  clear hf1 hp1 hfp hfw hpw
  go_wp2_with fail
  refine (data_any f1 cf1 f w2 HOF2.out.rd HWF.out (by omega)).mono ?_
  rintro e w' ⟨rfl, rfl⟩
  go_wp2_with fail
  refine (clone_own f1 cf1 f _ HOF2.out.cl (by omega)).mono ?_
  rintro e w3 ⟨g1, cg1, rfl, o3, k3, n3⟩
  -- the whole
  obtain ⟨O, hO⟩ : ∃ O, O = splitL ⟨line, f, zeroSc⟩ z := ⟨_, rfl⟩
  have Z1 := zz_any w3 ⟨line, f, zeroSc⟩ g1 cg1 none 0 none 0 (rows_start o3 line) p1 cp1 z (by omega) (by show line ≤ _; omega) HF.out HWZ.out ((OP2.out.kept k3 (fun _ _ f => f)).prow (fun g hg hF => by
    rcases hF with hF | hF | hF
    · have := n3 g hF; have := HX.out.2.1 g hg; omega
    · simp [blk] at hF
    · simp [blk] at hF))
  rw [← hO] at Z1
  obtain ⟨⟨L, F, T⟩, n, ok, dl⟩ := O
  have HO := hide hO
  have HZ1 := hide Z1
  have HK3 := hide (And.intro k3 n3)
  clear hO Z1 k3 n3 o3
  go_wp2_with fail
  refine HZ1.out.mono ?_
  rintro e w4 ⟨fa1, fc1, ka1, kc1, ra1, rc1, rfl, l4⟩
  have L4 := hide l4
  clear l4 HZ1
  simp only [fldE, fld]
  go_wp2_with fail
  generalize hw5 : (w4.alloc (.cells #[.int .i64 ↑L, .slice fa1 F.length fc1, .bool (isData F)] 35)).alloc (.cells #[.int .i64 T.depth, .bool T.str, .bool T.esc, .int .i64 T.pos, .bool T.inKey, .slice ka1 T.key.length kc1, .bool T.inID, .slice ra1 T.raw.length rc1, .bool T.method] 26) = w5
  generalize he1 : w4.heap.size = e1
  generalize hs1 : e1 + 1 = s1
  have k45 : Only w4 w5 (fun _ => False) := by rw [← hw5]; exact ((Only.refl w4 _).alloc _).alloc _
  have he5 : w5.heap[e1]? = some (.cells #[.int .i64 ↑L, .slice fa1 F.length fc1, .bool (isData F)] 35 (0, 0)) := by
    rw [← hw5, ← he1, Below.heap_alloc _ _ _ (by simp)]
    exact Go.heap_alloc_new w4 _
  have hs5 : w5.heap[s1]? = some (.cells (fld T ka1 kc1 ra1 rc1) 26 (0, 0)) := by
    rw [← hw5, ← hs1, ← he1]
    show ((w4.alloc (.cells #[.int .i64 ↑L, .slice fa1 F.length fc1, .bool (isData F)] 35)).alloc (.cells (fld T ka1 kc1 ra1 rc1) 26)).heap[w4.heap.size + 1]? = _
    have := Go.heap_alloc_new (w4.alloc (.cells #[.int .i64 ↑L, .slice fa1 F.length fc1, .bool (isData F)] 35)) (.cells (fld T ka1 kc1 ra1 rc1) 26)
    simpa using this
  -- what is known at w5
  have b25 : Only w2 w5 (fun _ => False) := by
    refine ((HK3.out.1.trans L4.out.2.1 ?_).trans k45 (fun _ _ f => f))
    intro b hb hF
    rcases hF with hF | hF | hF
    · have := HK3.out.2 b hF; omega
    · simp [blk] at hF
    · simp [blk] at hF
  have HOF5 := hide (HOF2.out.kept b25 (fun _ _ f => f))
  have HOP5 := hide (OP2.out.kept b25 (fun _ _ f => f))
  have R5f := hide ((L4.out.1.field.kept k45 (fun _ _ f => f)))
  have R5k := hide ((L4.out.1.key.kept k45 (fun _ _ f => f)))
  have R5r := hide ((L4.out.1.raw.kept k45 (fun _ _ f => f)))
  have B5 : Hid (Only w w5 (fun _ => False)) := B2.out.trans b25 (fun _ _ f => f)
  have HE5 := hide he5
  have HS5 := hide hs5
  clear hw5 he1 hs1 k45 he5 hs5 b25 L4 HK3 B2 HOF2 OP2
  -- the first piece
  obtain ⟨OA, hOA⟩ : ∃ OA, OA = splitL ⟨line, f, zeroSc⟩ (z.take k) := ⟨_, rfl⟩
  obtain ⟨⟨LA, FA, TA⟩, nA, okA, dA⟩ := OA
  have HOA := hide hOA
  clear hOA
  have hkc : (k : Int) ≤ (cp1 : Int) := by have := HOP5.out.le; omega
  have hk0 : (0 : Int) ≤ (k : Int) := by omega
  go_cut [15, 16, 17, 18, 19] from 25 (fun ve vs vn vo vd wc => ∃ (e2 s2 : Nat) (fa2 : Option Addr) (fc2 : Nat) (ka2 : Option Addr) (kc2 : Nat) (ra2 : Option Addr) (rc2 : Nat), ve = .pointer (some ⟨e2, 0, none⟩) ∧ vs = .pointer (some ⟨s2, 0, none⟩) ∧ vn = .int .i64 nA ∧ vo = .bool okA ∧ vd = .int .i64 dA ∧
      Hid (After w5 wc e2 s2 LA FA TA fa2 fc2 ka2 kc2 ra2 rc2))
  case first =>
    rename_i J K' hJ hK'
    refine reg17 line f f1 cf1 p1 cp1 z k w5 HOF5 HOP5 hline hz hk HF HWZ hf5 LA FA TA nA okA dA HOA _ (by kernel_rfl) K' _ _ _ _ _ _ _ _ _ _ _ _ _ _ _ _ _ _ _ _ _ _ _ _ _ _ _ _ _ _ _ _ _ _ _ _ _ _ _ _ _ _ _ _ _ _ _ _ _ _ _ _ _ _ _ _ _ _ _ _ _ _ _ _ _ _ _ _ _ _ _ _ _ _ _ _ _ _ _ _ _ _ _ _ _ _ _ _ _ _ _ _ _ _ _ _ _ _ _ _ _ _ _ _ _ _ _ _ _ _ _ _ _ _ _ _ _ _ _ _ _ _ _ _ _ _ _ _ _ _ _ _ _ _ _ _ _ _ _ _ _ _ _ _ _ _ _ _ _ _ _ _ _ _ _ _ _ _ _ _ _ _ ?_
    intro _ _ _ _ _ _ _ _ _ _ _ _ _ _ _ _ _ _ _ _ _ _ h
    refine hK' _ _ (Met.intro (hJ _ _ ?_))
    (repeat apply Exists.intro)
    exact ⟨h, rfl⟩
  case rest =>
    obtain ⟨e2, s2, fa2, fc2, ka2, kc2, ra2, rc2, rfl, rfl, rfl, rfl, rfl, HA⟩ := hcut
    have SE1 : Hid (Sees wc e1 s1 L F T fa1 fc1 ka1 kc1 ra1 rc1) := (sees_of R5f.out R5k.out R5r.out HE5.out HS5.out).kept HA.out.only
    have hF5 : F.length ≤ 5 := by
      have h := splitL_len z ⟨line, f, zeroSc⟩ HF.out
      rw [← HO.out] at h
      have h' : F.length = min L 5 := h
      omega
    have hTs : Small T := by
      have h := splitL_small z ⟨line, f, zeroSc⟩ zero_small
      rw [← HO.out] at h
      exact h
    have hnz : n ≤ z.length := by
      have h := splitL_le z ⟨line, f, zeroSc⟩
      rw [← HO.out] at h
      exact h
    have hFA : FA.length = min LA 5 := by
      have h := splitL_len (z.take k) ⟨line, f, zeroSc⟩ HF.out
      rw [← HOA.out] at h
      exact h
    have hLA : LA ≤ 4294967296 := by
      have h := splitL_grow (z.take k) ⟨line, f, zeroSc⟩
      rw [← HOA.out] at h
      have h' : LA ≤ line + (z.take k).length := h
      have h2 : (z.take k).length ≤ z.length := by rw [List.length_take]; omega
      omega
    have hSE : Sees w5 e1 s1 L F T fa1 fc1 ka1 kc1 ra1 rc1 := sees_of R5f.out R5k.out R5r.out HE5.out HS5.out
    have HSE := hide hSE
    have hc2 := two_case ⟨line, f, zeroSc⟩ z k hk
    rw [← HO.out, ← HOA.out] at hc2
    have HC2 := hide hc2
    have HTS := hide hTs
    have HF5 := hide hF5
    have HFA := hide hFA
    have HLA := hide hLA
    clear hc2 HE5 HS5 R5f R5k R5r HO HOA hTs hF5 hFA hLA hSE
    by_cases hy : ok = true ∧ n ≤ k
    · have hs := HC2.out.1 hy
      obtain ⟨rfl, hn⟩ := hy
      simp only [Out.mk.injEq, Ev.mk.injEq] at hs
      obtain ⟨⟨rfl, rfl, rfl⟩, rfl, rfl, rfl⟩ := hs
      have SE2 : Hid (Sees wc e2 s2 L F T fa2 fc2 ka2 kc2 ra2 rc2) := HA.out.sees
      have hn' : (n : Int) ≤ (k : Int) := by omega
      have b1 : ((n : Int) == (n : Int)) = true := by simp
      have b2 : ((dl : Int) == (dl : Int)) = true := by simp
      obtain ⟨-, -, -, x0, x1, x2, -, -, -, -, -, -, -, -, -⟩ := SE1.out
      obtain ⟨-, -, -, y0, y1, y2, -, -, -, -, -, -, -, -, -⟩ := SE2.out
      clear HC2
      go_wp2_with fail
      refine (eveq_same _ L F (isData F) fa2 fc2 fa1 fc1 SE2.out.rf SE1.out.rf (by have := HF5.out; omega)).mono ?_
      rintro e w8 ⟨rfl, k8⟩
      have S81 := hide (SE1.out.kept k8)
      have S82 := hide (SE2.out.kept k8)
      obtain ⟨-, -, -, -, -, -, u0, u1, u2, u3, u4, u5, u6, u7, u8⟩ := S81.out
      obtain ⟨-, -, -, -, -, -, v0, v1, v2, v3, v4, v5, v6, v7, v8⟩ := S82.out
      have K8 := hide k8
      clear k8 x0 x1 x2 y0 y1 y2
      go_wp2_with fail
      refine (scaneq_same _ T ka2 kc2 ra2 rc2 ka1 kc1 ra1 rc1 S82.out.rk S81.out.rk S82.out.rr S81.out.rr (by have := HTS.out.1; omega) (by have := HTS.out.2; omega)).mono ?_
      rintro e w9 ⟨rfl, k9⟩
      have K9 := hide k9
      clear k9
      go_wp2_with fail
      go_ret
      refine ⟨rfl, ?_⟩
      exact (((B5.out.trans HA.out.only (fun _ _ f => f)).trans K8.out (fun _ _ f => f)).trans K9.out (fun _ _ f => f)).below (fun _ f => f.elim) (Nat.le_refl _)
    · have hs := HC2.out.2 hy
      simp only at hs
      obtain ⟨rfl, rfl, rfl, hs⟩ := hs
      obtain ⟨⟨⟨LB, FB, TB⟩, nB, okB, dB⟩, hOB⟩ : ∃ OB, OB = splitL ⟨LA, FA, TA⟩ (z.drop nA) := ⟨_, rfl⟩
      rw [← hOB] at hs
      simp only [Out.more, Out.mk.injEq, Ev.mk.injEq] at hs
      obtain ⟨⟨rfl, rfl, rfl⟩, hnB, rfl, rfl⟩ := hs
      have HOB := hide hOB
      clear hOB HC2
      have hsub : wrap64 ((n : Int) - (nA : Int)) = (nB : Int) := by
        unfold wrap64
        omega
      have HSB : Hid ((nB : Int) = (n : Int) - (nA : Int)) := hide (by omega)
      have hbb : ((nB : Int) == (nB : Int)) = true := by simp
      have hcase : ok = false ∨ (ok = true ∧ ¬ (n : Int) ≤ (nA : Int)) := by
        cases ok with
        | false => exact .inl rfl
        | true => exact .inr ⟨rfl, fun h => hy ⟨rfl, by omega⟩⟩
      clear hy hnB
      obtain ⟨y0, y1, y2, t0, t1, t2, t3, t4, t5, t6, t7, t8⟩ := And.intro HA.out.e0 (And.intro HA.out.e1 (And.intro HA.out.e2 (And.intro HA.out.s0 (And.intro HA.out.s1 (And.intro HA.out.s2 (And.intro HA.out.s3 (And.intro HA.out.s4 (And.intro HA.out.s5 (And.intro HA.out.s6 (And.intro HA.out.s7 HA.out.s8))))))))))
      have le2 : e2 < wc.heap.size := World.block_lt_of_cell? wc _ y0
      have ls2 : s2 < wc.heap.size := World.block_lt_of_cell? wc _ t0
      have ne2 : ¬ wc.heap.size = e2 := by omega
      have ns2 : ¬ wc.heap.size = s2 := by omega
      have nf2 : ¬ wc.heap.size + 1 = e2 := by omega
      have ng2 : ¬ wc.heap.size + 1 = s2 := by omega
      have hk5 : (nA : Int) ≤ (z.length : Int) := by omega
      have OPc := hide (HOP5.out.kept HA.out.only (fun _ _ f => f))
      have hpl : ∀ g, blk p1 = some g → ¬ Foot3 fa2 ka2 ra2 g := fun g hg hF => by
        have := (HA.out.new g hF).1
        have := HOP5.out.lt hg
        omega
      have HPL := hide hpl
      clear hpl
      rcases HOP5.out.form with ⟨hp0, hcp0, hzz⟩ | ⟨g, cur, hp1, -, -⟩
      · subst hp0 hcp0 hzz
        have hn0 : nA = 0 := by simpa using hk
        subst hn0
        have hob := HOB.out
        simp only [List.drop_nil, splitL_nil, Out.mk.injEq, Ev.mk.injEq] at hob
        obtain ⟨⟨rfl, rfl, rfl⟩, rfl, rfl, rfl⟩ := hob
        have hn1 : n = 0 := by simpa using hnz
        subst hn1
        have HZB := hide (zz_rest HA.out none 0 [] ⟨Nat.le_refl _, .inl rfl⟩ (by simp) HLA.out HFA.out (by simp) _ _ _ 0 false 0 rfl)
        clear HOB
        go_wp2_with fail
        go_cut [20, 21, 22, 23, 24] from 25 (fun ve vs vn vo vd wd => ∃ (e3 s3 : Nat) (fa3 : Option Addr) (fc3 : Nat) (ka3 : Option Addr) (kc3 : Nat) (ra3 : Option Addr) (rc3 : Nat), ve = .pointer (some ⟨e3, 0, none⟩) ∧ vs = .pointer (some ⟨s3, 0, none⟩) ∧ vn = .int .i64 0 ∧ vo = .bool false ∧ vd = .int .i64 0 ∧ Hid (After w5 wd e3 s3 L F T fa3 fc3 ka3 kc3 ra3 rc3))
        case first =>
          rename_i J K' hJ hK'
          refine reg22n w5 wc e2 s2 L F T fa2 fc2 ka2 kc2 ra2 rc2 HA L F T 0 false 0 HZB _ (by kernel_rfl) K' _ _ _ _ _ _ _ _ _ _ _ _ _ _ _ _ _ _ _ _ _ _ _ _ _ _ _ _ _ _ _ _ _ _ _ _ _ _ _ _ _ _ _ _ _ _ _ _ _ _ _ _ _ _ _ _ _ _ _ _ _ _ _ _ _ _ _ _ _ _ _ _ _ _ _ _ _ _ _ _ _ _ _ _ _ _ _ _ _ _ _ _ _ _ _ _ _ _ _ _ _ _ _ _ _ _ _ _ _ _ _ _ _ _ _ _ _ _ _ _ _ _ _ _ _ _ _ _ _ _ _ _ _ _ _ _ _ _ _ _ _ _ _ _ _ _ _ _ _ _ _ _ _ _ _ _ _ _ _ _ _ _ _ ?_
          intro _ _ _ _ _ _ _ _ _ _ _ _ _ _ _ _ _ _ h
          refine hK' _ _ (Met.intro (hJ _ _ ?_))
          (repeat apply Exists.intro)
          exact ⟨h, rfl⟩
        case rest =>
          obtain ⟨e3, s3, fa3, fc3, ka3, kc3, ra3, rc3, rfl, rfl, rfl, rfl, rfl, HB⟩ := hcut
          have SF1 := hide (HSE.out.kept HB.out.only)
          have SF2 := hide HB.out.sees
          have b2 : ((0 : Int) == (0 : Int)) = true := by simp
          clear y0 y1 y2 t0 t1 t2 t3 t4 t5 t6 t7 t8 HZB HA SE1 HSE
          obtain ⟨-, -, -, x0, x1, x2, -, -, -, -, -, -, -, -, -⟩ := SF1.out
          obtain ⟨-, -, -, y0, y1, y2, -, -, -, -, -, -, -, -, -⟩ := SF2.out
          go_wp2_with fail
          refine (eveq_same _ L F (isData F) fa3 fc3 fa1 fc1 SF2.out.rf SF1.out.rf (by have := HF5.out; omega)).mono ?_
          rintro e w8 ⟨rfl, k8⟩
          have S81 := hide (SF1.out.kept k8)
          have S82 := hide (SF2.out.kept k8)
          obtain ⟨-, -, -, -, -, -, u0, u1, u2, u3, u4, u5, u6, u7, u8⟩ := S81.out
          obtain ⟨-, -, -, -, -, -, v0, v1, v2, v3, v4, v5, v6, v7, v8⟩ := S82.out
          have K8 := hide k8
          clear k8 x0 x1 x2 y0 y1 y2
          go_wp2_with fail
          refine (scaneq_same _ T ka3 kc3 ra3 rc3 ka1 kc1 ra1 rc1 S82.out.rk S81.out.rk S82.out.rr S81.out.rr (by have := HTS.out.1; omega) (by have := HTS.out.2; omega)).mono ?_
          rintro e w9 ⟨rfl, k9⟩
          have K9 := hide k9
          clear k9
          go_wp2_with fail
          go_ret
          refine ⟨rfl, ?_⟩
          exact (((B5.out.trans HB.out.only (fun _ _ f => f)).trans K8.out (fun _ _ f => f)).trans K9.out (fun _ _ f => f)).below (fun _ f => f.elim) (Nat.le_refl _)
          all_goals (rename_i hne; exact absurd HSB.out hne)
      · subst hp1
        have hpr : PRow wc (if cp1 = nA then some ⟨g, 0, none⟩ else some ⟨g, nA, none⟩) (cp1 - nA) (z.drop nA) (Foot3 fa2 ka2 ra2) := by
          by_cases hcc : cp1 = nA
          · have h0 : z.drop nA = [] := by
              have := OPc.out.le
              exact List.drop_eq_nil_of_le (by omega)
            rw [h0]
            exact ⟨Nat.zero_le _, .inl rfl⟩
          · rw [if_neg hcc]
            exact OPc.out.prow_drop nA hk (HPL.out g rfl)
        have hzb := zz_rest HA.out _ _ _ hpr (by rw [List.length_drop]; omega) HLA.out HFA.out (fun x hx => HWZ.out x (List.mem_of_mem_drop hx)) L F T nB ok dl HOB.out
        rw [List.length_drop] at hzb
        have HZB := hide hzb
        clear HOB hpr hzb
        rcases hcase with rfl | ⟨rfl, hnn⟩
        · go_wp2_with fail
          go_cut [20, 21, 22, 23, 24] from 25 (fun ve vs vn vo vd wd => ∃ (e3 s3 : Nat) (fa3 : Option Addr) (fc3 : Nat) (ka3 : Option Addr) (kc3 : Nat) (ra3 : Option Addr) (rc3 : Nat), ve = .pointer (some ⟨e3, 0, none⟩) ∧ vs = .pointer (some ⟨s3, 0, none⟩) ∧ vn = .int .i64 nB ∧ vo = .bool false ∧ vd = .int .i64 dl ∧ Hid (After w5 wd e3 s3 L F T fa3 fc3 ka3 kc3 ra3 rc3))
          case first =>
            rename_i J K' hJ hK'
            refine reg22s w5 wc g cp1 nA z hk OPc.out.le e2 s2 LA FA TA fa2 fc2 ka2 kc2 ra2 rc2 HA L F T nB false dl HZB _ (by kernel_rfl) K' _ _ _ _ _ _ _ _ _ _ _ _ _ _ _ _ _ _ _ _ _ _ _ _ _ _ _ _ _ _ _ _ _ _ _ _ _ _ _ _ _ _ _ _ _ _ _ _ _ _ _ _ _ _ _ _ _ _ _ _ _ _ _ _ _ _ _ _ _ _ _ _ _ _ _ _ _ _ _ _ _ _ _ _ _ _ _ _ _ _ _ _ _ _ _ _ _ _ _ _ _ _ _ _ _ _ _ _ _ _ _ _ _ _ _ _ _ _ _ _ _ _ _ _ _ _ _ _ _ _ _ _ _ _ _ _ _ _ _ _ _ _ _ _ _ _ _ _ _ _ _ _ _ _ _ _ _ _ _ _ _ _ _ ?_
            intro _ _ _ _ _ _ _ _ _ _ _ _ _ _ _ _ _ _ h
            refine hK' _ _ (Met.intro (hJ _ _ ?_))
            (repeat apply Exists.intro)
            exact ⟨h, rfl⟩
          case rest =>
            obtain ⟨e3, s3, fa3, fc3, ka3, kc3, ra3, rc3, rfl, rfl, rfl, rfl, rfl, HB⟩ := hcut
            have SF1 := hide (HSE.out.kept HB.out.only)
            have SF2 := hide HB.out.sees
            have b2 : ((dl : Int) == (dl : Int)) = true := by simp
            clear y0 y1 y2 t0 t1 t2 t3 t4 t5 t6 t7 t8 HZB HA SE1 HSE
            obtain ⟨-, -, -, x0, x1, x2, -, -, -, -, -, -, -, -, -⟩ := SF1.out
            obtain ⟨-, -, -, y0, y1, y2, -, -, -, -, -, -, -, -, -⟩ := SF2.out
            go_wp2_with fail
            refine (eveq_same _ L F (isData F) fa3 fc3 fa1 fc1 SF2.out.rf SF1.out.rf (by have := HF5.out; omega)).mono ?_
            rintro e w8 ⟨rfl, k8⟩
            have S81 := hide (SF1.out.kept k8)
            have S82 := hide (SF2.out.kept k8)
            obtain ⟨-, -, -, -, -, -, u0, u1, u2, u3, u4, u5, u6, u7, u8⟩ := S81.out
            obtain ⟨-, -, -, -, -, -, v0, v1, v2, v3, v4, v5, v6, v7, v8⟩ := S82.out
            have K8 := hide k8
            clear k8 x0 x1 x2 y0 y1 y2
            go_wp2_with fail
            refine (scaneq_same _ T ka3 kc3 ra3 rc3 ka1 kc1 ra1 rc1 S82.out.rk S81.out.rk S82.out.rr S81.out.rr (by have := HTS.out.1; omega) (by have := HTS.out.2; omega)).mono ?_
            rintro e w9 ⟨rfl, k9⟩
            have K9 := hide k9
            clear k9
            go_wp2_with fail
            go_ret
            refine ⟨rfl, ?_⟩
            exact (((B5.out.trans HB.out.only (fun _ _ f => f)).trans K8.out (fun _ _ f => f)).trans K9.out (fun _ _ f => f)).below (fun _ f => f.elim) (Nat.le_refl _)
            all_goals (rename_i hne; exact absurd HSB.out hne)
        · go_wp2_with fail
          go_cut [20, 21, 22, 23, 24] from 25 (fun ve vs vn vo vd wd => ∃ (e3 s3 : Nat) (fa3 : Option Addr) (fc3 : Nat) (ka3 : Option Addr) (kc3 : Nat) (ra3 : Option Addr) (rc3 : Nat), ve = .pointer (some ⟨e3, 0, none⟩) ∧ vs = .pointer (some ⟨s3, 0, none⟩) ∧ vn = .int .i64 nB ∧ vo = .bool true ∧ vd = .int .i64 dl ∧ Hid (After w5 wd e3 s3 L F T fa3 fc3 ka3 kc3 ra3 rc3))
          case first =>
            rename_i J K' hJ hK'
            refine reg22s w5 wc g cp1 nA z hk OPc.out.le e2 s2 LA FA TA fa2 fc2 ka2 kc2 ra2 rc2 HA L F T nB true dl HZB _ (by kernel_rfl) K' _ _ _ _ _ _ _ _ _ _ _ _ _ _ _ _ _ _ _ _ _ _ _ _ _ _ _ _ _ _ _ _ _ _ _ _ _ _ _ _ _ _ _ _ _ _ _ _ _ _ _ _ _ _ _ _ _ _ _ _ _ _ _ _ _ _ _ _ _ _ _ _ _ _ _ _ _ _ _ _ _ _ _ _ _ _ _ _ _ _ _ _ _ _ _ _ _ _ _ _ _ _ _ _ _ _ _ _ _ _ _ _ _ _ _ _ _ _ _ _ _ _ _ _ _ _ _ _ _ _ _ _ _ _ _ _ _ _ _ _ _ _ _ _ _ _ _ _ _ _ _ _ _ _ _ _ _ _ _ _ _ _ _ ?_
            intro _ _ _ _ _ _ _ _ _ _ _ _ _ _ _ _ _ _ h
            refine hK' _ _ (Met.intro (hJ _ _ ?_))
            (repeat apply Exists.intro)
            exact ⟨h, rfl⟩
          case rest =>
            obtain ⟨e3, s3, fa3, fc3, ka3, kc3, ra3, rc3, rfl, rfl, rfl, rfl, rfl, HB⟩ := hcut
            have SF1 := hide (HSE.out.kept HB.out.only)
            have SF2 := hide HB.out.sees
            have b2 : ((dl : Int) == (dl : Int)) = true := by simp
            clear y0 y1 y2 t0 t1 t2 t3 t4 t5 t6 t7 t8 HZB HA SE1 HSE
            obtain ⟨-, -, -, x0, x1, x2, -, -, -, -, -, -, -, -, -⟩ := SF1.out
            obtain ⟨-, -, -, y0, y1, y2, -, -, -, -, -, -, -, -, -⟩ := SF2.out
            go_wp2_with fail
            refine (eveq_same _ L F (isData F) fa3 fc3 fa1 fc1 SF2.out.rf SF1.out.rf (by have := HF5.out; omega)).mono ?_
            rintro e w8 ⟨rfl, k8⟩
            have S81 := hide (SF1.out.kept k8)
            have S82 := hide (SF2.out.kept k8)
            obtain ⟨-, -, -, -, -, -, u0, u1, u2, u3, u4, u5, u6, u7, u8⟩ := S81.out
            obtain ⟨-, -, -, -, -, -, v0, v1, v2, v3, v4, v5, v6, v7, v8⟩ := S82.out
            have K8 := hide k8
            clear k8 x0 x1 x2 y0 y1 y2
            go_wp2_with fail
            refine (scaneq_same _ T ka3 kc3 ra3 rc3 ka1 kc1 ra1 rc1 S82.out.rk S81.out.rk S82.out.rr S81.out.rr (by have := HTS.out.1; omega) (by have := HTS.out.2; omega)).mono ?_
            rintro e w9 ⟨rfl, k9⟩
            have K9 := hide k9
            clear k9
            go_wp2_with fail
            go_ret
            refine ⟨rfl, ?_⟩
            exact (((B5.out.trans HB.out.only (fun _ _ f => f)).trans K8.out (fun _ _ f => f)).trans K9.out (fun _ _ f => f)).below (fun _ f => f.elim) (Nat.le_refl _)
            all_goals (rename_i hne; exact absurd HSB.out hne)

end Go.Proofs.Qxb6603984aMods
