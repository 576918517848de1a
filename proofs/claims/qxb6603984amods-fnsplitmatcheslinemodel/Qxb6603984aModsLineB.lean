/-
  THE MODEL's HELPERS: firstBytesB1, mkScanB1, ZZFeedB1, the bound that the program laid.
-/
import Derived.Test.Qxb6603984aModsLineA
import Derived.Test.Qxb6603984aModsTwoB
namespace Go.Proofs.Qxb6603984aMods
open Go.RowKit Plain

theorem make_zero (n : Nat) (hn : n ≤ 1000000) (w : World) : (Instr.makeSlice 22 (.int .i64 0) (.int .i64 (n : Int))).run Trym.prog w = .ok (.slice (some ⟨w.heap.size, 0, none⟩) 0 n) (w.alloc (.cells (madeCells #[.int .u8 0] n) 5)) := by
  obtain ⟨i, hi, hzz⟩ := Option.map_eq_some_iff.1 Trym.info5
  simp only [Prod.mk.injEq] at hzz
  obtain ⟨hz, hs, hb⟩ := hzz
  have hr := run_make (P := Trym.prog) w 22 5 i (.int .u8 0) Trym.underlying22 hi hz .i64 .i64 (0 : Nat) n (by omega) (by omega) (by rw [hb]; omega) (by omega)
  simp only [Int.toNat_natCast, hs, Nat.mul_one] at hr
  exact hr

/-- A made row, empty. -/
theorem own_made (w : World) (n : Nat) (hn : n ≤ 1000000) : Own (w.alloc (.cells (madeCells #[.int .u8 0] n) 5)) (some ⟨w.heap.size, 0, none⟩) n [] :=
  Own.mk (Go.heap_alloc_new w _) (Nat.zero_le _) (by unfold maxLen; omega) (by simp [madeCells]) (by simp)

theorem PRow.at {w wr : World} {b : Option Addr} {d : Nat} {ys : List Int} (hp : PRow w b d ys (fun _ => False)) (ho : Only w wr (fun _ => False)) (k : Nat) (hk : k < ys.length) : ∃ pb off, b = some ⟨pb, off, none⟩ ∧ wr.cell? ⟨pb, off + k, none⟩ = some (.int .u8 (ys.getD k 0)) := by
  rcases hp.2 with hh | ⟨pb, off, rfl, hpw, _, hpc⟩
  · rw [hh] at hk; simp at hk
  · refine ⟨pb, off, rfl, ?_⟩
    rw [World.cell?_of_block (w := w) (ho.block pb hpw (fun f => f))]
    exact hpc k hk

set_option maxHeartbeats 4000000 in
set_option maxRecDepth 100000 in
theorem first_any (a : Option Addr) (c : Nat) (xs : List Int) (b : Option Addr) (d : Nat) (ys : List Int) (w : World) (ho : PRow w a c xs (fun _ => False)) (hp : PRow w b d ys (fun _ => False)) (hx : xs.length ≤ 5) (hy : ys.length ≤ 1000000) :
    Calls Trym.prog 16 #[.slice a xs.length c, .slice b ys.length d, .int .i64 5] w fun e w' => ∃ a' c', e = .returned (.slice a' (firstL xs ys).length c') ∧ Own w' a' c' (firstL xs ys) ∧ Only w w' (fun _ => False) ∧ (∀ g, blk a' = some g → w.heap.size ≤ g) := by
  have HO := hide ho
  have HP := hide hp
  clear ho hp
  have hmk : ∀ w, (Instr.makeSlice 22 (.int .i64 0) (.int .i64 5)).run Trym.prog w = .ok (.slice (some ⟨w.heap.size, 0, none⟩) 0 5) (w.alloc (.cells (madeCells #[.int .u8 0] 5) 5)) := make_zero 5 (by omega)
  go_enter Trym.func16, Trym.ntmps16
  go_wp2
  clear hmk
  go_loopw [7, 8] (fun dv iv wr => ∃ (k : Nat) (a' : Option Addr) (c' : Nat), dv = .slice a' (xs.take k).length c' ∧ iv = .int .i64 k ∧ k ≤ xs.length ∧ Hid (Own wr a' c' (xs.take k)) ∧ Hid (Only w wr (fun _ => False)) ∧ Hid (∀ g, blk a' = some g → w.heap.size ≤ g)) (fun _ iv _ => xs.length - (intOf iv).toNat)
  case atStart => exact ⟨0, some ⟨w.heap.size, 0, none⟩, 5, rfl, rfl, Nat.zero_le _, hide (own_made w 5 (by omega)), hide ((Only.refl w _).alloc _), fun g hg => by simp [blk] at hg; omega⟩
  case round =>
    obtain ⟨k, a', c', rfl, rfl, hk, hown, honly, hat⟩ := hrel
    by_cases hlt : k < xs.length
    · obtain ⟨pb, off, rfl, hcx⟩ := HO.out.at honly.out k hlt
      have HST : Hid (∀ x, x = xs.getD k 0 → (xs.take k) ++ [x] = xs.take (k + 1)) := fun x hx' => by rw [take_succ_getD xs k hlt, hx']
      generalize hz : xs.getD k 0 = x at hcx
      have HZ := hide (HST.out x hz.symm)
      have hlk : (xs.take k).length < 5 := by simp; omega
      generalize hzs : xs.take k = zs at hown HZ hlk
      clear hz HST hzs
      go_wp2_with (at_builtin; refine wpList_own1 rfl (.tmp 24) (.tmp 29) rfl hown.out (by omega) x rfl rfl ?_; intro g cap w1 h1 h2 h3)
      go_roundw
      case rel =>
        have hw1 : w.heap.size ≤ wr.heap.size := honly.out.size
        refine ⟨k + 1, some ⟨g, 0, none⟩, cap, ?_, by go_num, by omega, hide ?_, hide ?_, hide ?_⟩
        · rw [← HZ.out]; simp
        · rw [← HZ.out]; exact h1
        · refine honly.out.trans (Only.grown h2 (F := fun g => blk a' = some g) (fun _ hk => hk)) (fun q hq hF => ?_)
          have := hat.out q hF
          omega
        · intro g' hg'
          rcases h3 g' hg' with h | h
          · exact hat.out g' h
          · omega
      case measure => simp [intOf]; omega
    · obtain rfl : k = xs.length := by omega
      have hkk : xs.take xs.length = xs := by simp
      rw [hkk] at hown
      rw [hkk]
      go_wp2
      clear HO hkk hlt hk
      go_loopw [7, 9] (fun dv iv wr2 => ∃ (k : Nat) (a2 : Option Addr) (c2 : Nat), dv = .slice a2 (xs ++ ys.take k).length c2 ∧ iv = .int .i64 k ∧ k ≤ ys.length ∧ xs.length + k ≤ 5 ∧ Hid (Own wr2 a2 c2 (xs ++ ys.take k)) ∧ Hid (Only w wr2 (fun _ => False)) ∧ Hid (∀ g, blk a2 = some g → w.heap.size ≤ g)) (fun _ iv _ => ys.length - (intOf iv).toNat)
      case atStart => exact ⟨0, a', c', by simp, rfl, Nat.zero_le _, by omega, hide (by simpa using hown.out), hide honly.out, hide hat.out⟩
      case round =>
        clear hown honly hat
        obtain ⟨k, a2, c2, rfl, rfl, hk, hk5, hown, honly, hat⟩ := hrel
        have hlen : (xs ++ ys.take k).length = xs.length + k := by simp; omega
        by_cases hlt : k < ys.length
        · by_cases h5 : xs.length + k < 5
          · obtain ⟨pb, off, rfl, hcx⟩ := HP.out.at honly.out k hlt
            have HST : Hid (∀ x, x = ys.getD k 0 → (xs ++ ys.take k) ++ [x] = xs ++ ys.take (k + 1)) := fun x hx' => by rw [take_succ_getD ys k hlt, hx', List.append_assoc]
            generalize hz : ys.getD k 0 = x at hcx
            have HZ := hide (HST.out x hz.symm)
            have hlk : (xs ++ ys.take k).length < 5 := by omega
            generalize hzs : xs ++ ys.take k = zs at hown HZ hlk
            clear hz HST hzs hlen
            go_wp2_with (at_builtin; refine wpList_own1 rfl (.tmp 43) (.tmp 48) rfl hown.out (by omega) x rfl rfl ?_; intro g cap w1 h1 h2 h3)
            go_roundw
            case rel =>
              have hw1 := honly.out.size
              refine ⟨k + 1, some ⟨g, 0, none⟩, cap, ?_, by go_num, by omega, by omega, hide ?_, hide ?_, hide ?_⟩
              · rw [← HZ.out]; simp
              · rw [← HZ.out]; exact h1
              · refine honly.out.trans (Only.grown h2 (F := fun g => blk a2 = some g) (fun _ hk => hk)) (fun q hq hF => ?_)
                have := hat.out q hF
                omega
              · intro g' hg'
                rcases h3 g' hg' with h | h
                · exact hat.out g' h
                · omega
            case measure => simp [intOf]; omega
          · have hkk : xs ++ ys.take k = firstL xs ys := by unfold firstL; rw [show 5 - xs.length = k by omega]
            rw [hkk] at hown hlen
            rw [hkk]
            have h5' : ¬ (firstL xs ys).length < 5 := by omega
            go_wp2
            go_ret
            exact ⟨a2, c2, rfl, hown.out, honly.out, hat.out⟩
        · have hkk : xs ++ ys.take k = firstL xs ys := by unfold firstL; rw [List.take_of_length_le (by omega), List.take_of_length_le (by omega)]
          rw [hkk] at hown hlen
          rw [hkk]
          go_wp2
          go_ret
          exact ⟨a2, c2, rfl, hown.out, honly.out, hat.out⟩


set_option maxHeartbeats 1000000 in
set_option maxRecDepth 100000 in
/-- mkScanB1. -/
theorem mkscan_any (S : Sc) (ka : Option Addr) (kc : Nat) (ra : Option Addr) (rc : Nat) (w : World) :
    Calls Trym.prog 8 #[.int .i64 S.depth, .bool S.str, .bool S.esc, .int .i64 S.pos, .bool S.inKey, .slice ka S.key.length kc, .bool S.inID, .slice ra S.raw.length rc, .bool S.method] w fun e w' => e = .returned (.agg (fld S ka kc ra rc)) ∧ Only w w' (fun _ => False) := by
  go_enter Trym.func8, Trym.ntmps8
  go_wp2
  refine bodyPost_ret (v := .agg (fld S ka kc ra rc)) (by simp [results, Trym.results8, fld, go_sem]) rfl ⟨rfl, ?_⟩
  repeat (first | exact (Only.refl w _).alloc _ | refine Only.setCell ?_ _ _ (fun h => by simp at h))

/-- The bound that the program laid, four slices. -/
theorem zb12_yes (a : Int) (f : Option Addr) (nf cf : Nat) (d : Int) (b1 b2 : Bool) (t : Int) (b3 : Bool) (k : Option Addr) (nk ck : Nat) (b4 : Bool) (r : Option Addr) (nr cr : Nat) (b5 : Bool) (p : Option Addr) (np cp : Nat) (w : World) (h1 : nf ≤ 65536) (h2 : nk ≤ 65536) (h3 : nr ≤ 65536) (h4 : np ≤ 65536) :
    Calls Trym.prog 12 #[.int .i64 a, .slice f nf cf, .int .i64 d, .bool b1, .bool b2, .int .i64 t, .bool b3, .slice k nk ck, .bool b4, .slice r nr cr, .bool b5, .slice p np cp] w fun e w' => e = .returned (.bool true) ∧ w = w' := by
  go_enter Trym.func12, Trym.ntmps12
  go_wp2
  go_ret
  exact ⟨rfl, rfl⟩

set_option maxHeartbeats 4000000 in
/-- .. whatever the lengths. -/
theorem zb12_any (a : Int) (f : Option Addr) (nf cf : Nat) (d : Int) (b1 b2 : Bool) (t : Int) (b3 : Bool) (k : Option Addr) (nk ck : Nat) (b4 : Bool) (r : Option Addr) (nr cr : Nat) (b5 : Bool) (p : Option Addr) (np cp : Nat) (w : World) (h1 : nf ≤ maxLen) (h2 : nk ≤ maxLen) (h3 : nr ≤ maxLen) (h4 : np ≤ maxLen) :
    Calls Trym.prog 12 #[.int .i64 a, .slice f nf cf, .int .i64 d, .bool b1, .bool b2, .int .i64 t, .bool b3, .slice k nk ck, .bool b4, .slice r nr cr, .bool b5, .slice p np cp] w fun e w' => (∃ b, e = .returned (.bool b)) ∧ w = w' := by
  unfold maxLen at h1 h2 h3 h4
  by_cases c1 : 1048576 < nf
  · go_enter Trym.func12, Trym.ntmps12
    go_wp2
    go_ret
    exact ⟨⟨_, rfl⟩, rfl⟩
  by_cases c2 : 1048576 < nk
  · go_enter Trym.func12, Trym.ntmps12
    go_wp2
    go_ret
    exact ⟨⟨_, rfl⟩, rfl⟩
  by_cases c3 : 1048576 < nf + nk
  · go_enter Trym.func12, Trym.ntmps12
    go_wp2
    go_ret
    exact ⟨⟨_, rfl⟩, rfl⟩
  by_cases c4 : 1048576 < nr
  · go_enter Trym.func12, Trym.ntmps12
    go_wp2
    go_ret
    exact ⟨⟨_, rfl⟩, rfl⟩
  by_cases c5 : 1048576 < nf + nk + nr
  · go_enter Trym.func12, Trym.ntmps12
    go_wp2
    go_ret
    exact ⟨⟨_, rfl⟩, rfl⟩
  by_cases c6 : 1048576 < np
  · go_enter Trym.func12, Trym.ntmps12
    go_wp2
    go_ret
    exact ⟨⟨_, rfl⟩, rfl⟩
  by_cases c7 : 1048576 < nf + nk + nr + np
  · go_enter Trym.func12, Trym.ntmps12
    go_wp2
    go_ret
    exact ⟨⟨_, rfl⟩, rfl⟩
  · go_enter Trym.func12, Trym.ntmps12
    go_wp2
    go_ret
    exact ⟨⟨_, rfl⟩, rfl⟩


/-- The blocks that ZZFeedB1 lays before it calls feed. -/
def laidF (w : World) (S : Sc) (ka : Option Addr) (kc : Nat) (ra : Option Addr) (rc : Nat) (z26 : Array Value) : World :=
  (((w.alloc (.cells (fld S ka kc ra rc) 26)).alloc (.cells z26 26)).alloc (.cells (fld S ka kc ra rc) 26)).alloc (.cells (fld S ka kc ra rc) 54)

theorem laidF_size (w : World) (S : Sc) (ka : Option Addr) (kc : Nat) (ra : Option Addr) (rc : Nat) (z26 : Array Value) : (laidF w S ka kc ra rc z26).heap.size = w.heap.size + 4 := by
  simp [laidF]

theorem laidF_old (w : World) (S : Sc) (ka : Option Addr) (kc : Nat) (ra : Option Addr) (rc : Nat) (z26 : Array Value) (F : Nat → Prop) : Only w (laidF w S ka kc ra rc z26) F :=
  ((((Only.refl w F).alloc _).alloc _).alloc _).alloc _

theorem laidF_scan {w : World} {S : Sc} {ka : Option Addr} {kc : Nat} {ra : Option Addr} {rc : Nat} (hk : Own w ka kc S.key) (hr : Own w ra rc S.raw) (ha : ∀ g, blk ka = some g → blk ra ≠ some g) (z26 : Array Value) :
    ScanAt (laidF w S ka kc ra rc z26) (w.heap.size + 3) ka kc ra rc S := by
  have ho := laidF_old w S ka kc ra rc z26 (fun _ => False)
  have hb : ∀ {ao : Option Addr} {c : Nat} {xs : List Int}, Own w ao c xs → Own (laidF w S ka kc ra rc z26) ao c xs := fun h => h.same (fun g hg => ho.block g (h.lt hg) (fun f => f))
  refine ⟨?_, hb hk, hb hr, ha⟩
  unfold laidF
  have := Go.heap_alloc_new (((w.alloc (.cells (fld S ka kc ra rc) 26)).alloc (.cells z26 26)).alloc (.cells (fld S ka kc ra rc) 26)) (.cells (fld S ka kc ra rc) 54)
  simpa using this

theorem laidF_b1 (w : World) (S : Sc) (ka : Option Addr) (kc : Nat) (ra : Option Addr) (rc : Nat) (z26 : Array Value) : (laidF w S ka kc ra rc z26).heap[w.heap.size + 1]? = some (.cells z26 26 (0, 0)) := by
  unfold laidF
  rw [Below.heap_alloc _ _ _ (by simp), Below.heap_alloc _ _ _ (by simp)]
  have := Go.heap_alloc_new (w.alloc (.cells (fld S ka kc ra rc) 26)) (.cells z26 26)
  simpa using this

/-- The rows of the scan. -/
def Foot2 (ka ra : Option Addr) (k : Nat) : Prop := blk ka = some k ∨ blk ra = some k

set_option maxHeartbeats 4000000 in
set_option maxRecDepth 100000 in
/-- ZZFeedB1. -/
theorem zzfeed_any (w : World) (S : Sc) (ka : Option Addr) (kc : Nat) (ra : Option Addr) (rc : Nat) (hk : Own w ka kc S.key) (hr : Own w ra rc S.raw) (ha : ∀ g, blk ka = some g → blk ra ≠ some g)
    (a : Option Addr) (c : Nat) (xs : List Int) (hl : xs.length ≤ 1048576) (hw : ∀ x ∈ xs, 0 ≤ x ∧ x ≤ 255) (hp : PRow w a c xs (Foot2 ka ra)) :
    Calls Trym.prog 18 #[.agg (fld S ka kc ra rc), .slice a xs.length c] w fun e w' => ∃ ka' kc' ra' rc', e = .returned (.agg (fld (feedL S xs) ka' kc' ra' rc')) ∧
      Own w' ka' kc' (feedL S xs).key ∧ Own w' ra' rc' (feedL S xs).raw ∧ Only w w' (Foot2 ka ra) := by
  have hf := fun z26 => feed_any (laidF w S ka kc ra rc z26) (w.heap.size + 3) ka kc ra rc S (laidF_scan hk hr ha z26) a c xs hl hw
    ((hp.mono (fun k hk hf => by
      rcases hf with hf | hf | hf
      · omega
      · exact .inl hf
      · exact .inr hf)).kept (laidF_old w S ka kc ra rc z26 _))
  generalize hT : feedL S xs = T at hf ⊢
  have HF := hide hf
  have HK := hide hk
  have HR := hide hr
  clear hf hk hr hT hw hp ha
  have hmk := make_any S ka kc ra rc
  have HMK := hide hmk
  clear hmk
  unfold fld
  go_enter Trym.func18, Trym.ntmps18
  go_wp2_with fail
  refine (HMK.out _).mono ?_
  rintro e w1 ⟨rfl, rfl⟩
  simp only [fld]
  go_wp2_with fail
  refine (HF.out #[.int .i64 0, .bool false, .bool false, .int .i64 0, .bool false, .slice none 0 0, .bool false, .slice none 0 0, .bool false]).mono ?_
  rintro e w2 ⟨rfl, ka2, kc2, ra2, rc2, sc2, fr2⟩
  go_wp2_with fail
  generalize hb3 : w.heap.size + 1 + 1 + 1 = b3
  generalize hb1 : w.heap.size + 1 = b1
  have sc3 : ScanAt w2 b3 ka2 kc2 ra2 rc2 T := by rw [← hb3]; exact sc2
  have sz : w.heap.size + 4 ≤ w2.heap.size := by have := fr2.only.size; rw [laidF_size] at this; exact this
  have hh1 : w2.heap[b1]? = some (.cells #[.int .i64 0, .bool false, .bool false, .int .i64 0, .bool false, .slice none 0 0, .bool false, .slice none 0 0, .bool false] 26 (0, 0)) := by
    rw [fr2.only.block b1 (by rw [laidF_size]; omega) (fun hf => by
      rcases hf with hf | hf | hf
      · omega
      · have := HK.out.lt hf; omega
      · have := HR.out.lt hf; omega), ← hb1]
    exact laidF_b1 w S ka kc ra rc _
  refine (out_any w2 b3 ka2 kc2 ra2 rc2 T sc3).mono ?_
  rintro e w3 ⟨rfl, nn, rfl⟩
  have lt1 : b1 < w2.heap.size := by omega
  obtain ⟨cc1, cf1⟩ := told hh1
  have HH1 := hide hh1
  have SC := hide sc3
  have FR := hide fr2
  have HB1 := hide hb1
  have HB3 := hide hb3
  clear sc2 sc3 fr2 hh1 hb1 hb3
  simp only [fld]
  go_wp2
  refine bodyPost_ret (v := .agg (fld T ka2 kc2 ra2 rc2)) ?_ rfl ?_
  · simp [results, Trym.results18, fld, go_sem, *]
  · have ho : ∀ w3, Only w2 w3 (fun k => k = b1) → Own w3 ka2 kc2 T.key ∧ Own w3 ra2 rc2 T.raw ∧ Only w w3 (Foot2 ka ra) := by
      intro w3 ho
      have hk : ∀ {ao : Option Addr} {c : Nat} {xs : List Int}, Own w2 ao c xs → Own w3 ao c xs := fun h => h.same (fun g hg => ho.block g (h.lt hg) (fun f => h.ne hg HH1.out (by decide) f))
      refine ⟨hk SC.out.key, hk SC.out.raw, ?_⟩
      refine ((laidF_old w S ka kc ra rc _ _).trans FR.out.only ?_).trans ho ?_
      · intro k hk hf
        rcases hf with hf | hf | hf
        · omega
        · exact .inl hf
        · exact .inr hf
      · intro k hk hf
        have := HB1.out
        omega
    refine ⟨ka2, kc2, ra2, rc2, rfl, ho _ ?_⟩
    exact ((((((((((((Only.refl w2 (fun k => k = b1)).alloc _).drewN _).setCell ⟨b1, 0, none⟩ _ (fun _ => rfl)).setCell ⟨b1, 1, none⟩ _ (fun _ => rfl)).setCell ⟨b1, 2, none⟩ _ (fun _ => rfl)).setCell ⟨b1, 3, none⟩ _ (fun _ => rfl)).setCell ⟨b1, 4, none⟩ _ (fun _ => rfl)).setCell ⟨b1, 5, none⟩ _ (fun _ => rfl)).setCell ⟨b1, 6, none⟩ _ (fun _ => rfl)).setCell ⟨b1, 7, none⟩ _ (fun _ => rfl)).setCell ⟨b1, 8, none⟩ _ (fun _ => rfl))


/-! ### The key and the id stay within their bound -/
def Big (S : Sc) : Prop := S.key.length ≤ 65536 ∧ S.raw.length ≤ 65536

theorem upL_big (xs : List Int) (c : Int) (m : Nat) (hm : m ≤ 64) (h : xs.length ≤ 65536) : (upL xs c m).length ≤ 65536 := by
  unfold upL
  split
  · exact h
  · simp; omega

theorem inStr_big (S : Sc) (c : Int) (h : Big S) : Big (inStr S c) := by
  have h1 := upL_big S.key c 6 (by omega) h.1
  have h2 := upL_big S.raw c 64 (by omega) h.2
  have h3 : (if S.inID = true then upL S.raw c 64 else S.raw).length ≤ 65536 := by
    split
    · exact h2
    · exact h.2
  unfold inStr
  split
  · split
    · exact h
    · exact ⟨h.1, h3⟩
  · refine ⟨?_, h3⟩
    show (if S.inKey = true then upL S.key c 6 else S.key).length ≤ 65536
    split
    · exact h1
    · exact h.1

theorem preV_big (S : Sc) (c : Int) (h : Big S) : Big (preV S c) := by
  unfold preV startV
  split
  · split
    · exact ⟨h.1, by simp⟩
    · exact h
  · exact h

theorem swV_big (S : Sc) (c : Int) (h : Big S) : Big (swV S c) := by
  have h3 : (if S.inID = true then upL S.raw c 64 else S.raw).length ≤ 65536 := by
    split
    · exact upL_big S.raw c 64 (by omega) h.2
    · exact h.2
  unfold swV
  split
  · refine ⟨?_, h3⟩
    show (if S.pos = 1 then [] else S.key).length ≤ 65536
    split
    · simp
    · exact h.1
  · split
    · exact h
    · split
      · exact h
      · split
        · split <;> exact h
        · split
          · exact h
          · exact ⟨h.1, h3⟩

theorem step_big (S : Sc) (c : Int) (h : Big S) : Big (Plain.step S c) := by
  unfold Plain.step
  split
  · exact inStr_big S c h
  · exact swV_big _ c (preV_big S c h)

theorem feedL_big (xs : List Int) : ∀ (S : Sc), Big S → Big (feedL S xs) := by
  induction xs with
  | nil => intro S h; exact h
  | cons c r ih => intro S h; exact ih _ (step_big S c h)

end Go.Proofs.Qxb6603984aMods
