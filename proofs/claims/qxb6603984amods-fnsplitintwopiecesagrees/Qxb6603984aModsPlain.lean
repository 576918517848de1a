/-
  THE PLAIN MATHEMATICS OF THE SCAN AND OF THE EVENTS' SPLIT: data and lists, no Go in sight.
-/
import Derived.RowKit
import Derived.Laws.BytesArg
import Derived.Lib.Strings
namespace Go.Proofs.Qxb6603984aMods.Plain
open Go Go.RowKit

/-- The scan's nine fields. -/
structure Sc where
  depth : Int
  str : Bool
  esc : Bool
  pos : Int
  inKey : Bool
  key : List Int
  inID : Bool
  raw : List Int
  method : Bool

/-- upTo. -/
def upL (xs : List Int) (c : Int) (m : Nat) : List Int := if m < xs.length then xs else xs ++ [c]

/-- Does the key read 'id', 'method'? (as Go compares the string of its bytes) -/
def isId (key : List Int) : Bool := (strOfNums key).toList == [105, 100]
def isMethod (key : List Int) : Bool := (strOfNums key).toList == [109, 101, 116, 104, 111, 100]

def inStr (S : Sc) (c : Int) : Sc :=
  if S.esc = false ∧ c = 34 then
    (if S.inKey = true then { S with str := false, inKey := false, pos := 2 }
     else { S with str := false, inID := false, esc := false, raw := if S.inID = true then upL S.raw c 64 else S.raw })
  else { S with key := if S.inKey = true then upL S.key c 6 else S.key, raw := if S.inID = true then upL S.raw c 64 else S.raw, esc := !S.esc && (c == 92) }

def startV (S : Sc) (c : Int) : Sc :=
  if isId S.key = true then { S with pos := 4, raw := [], inID := if c ≠ 123 ∧ c ≠ 91 then true else S.inID } else { S with pos := 4 }

def preV (S : Sc) (c : Int) : Sc := if S.pos = 3 ∧ c ≠ 32 ∧ c ≠ 9 ∧ c ≠ 10 ∧ c ≠ 13 then startV S c else S

def swV (S : Sc) (c : Int) : Sc :=
  if c = 34 then { S with str := true, raw := if S.inID = true then upL S.raw c 64 else S.raw, inKey := if S.pos = 1 then true else S.inKey, key := if S.pos = 1 then [] else S.key }
  else if c = 123 ∨ c = 91 then { S with depth := wrap64 (S.depth + 1), pos := if wrap64 (S.depth + 1) = 1 then 1 else S.pos }
  else if c = 125 ∨ c = 93 then { S with depth := wrap64 (S.depth - 1) }
  else if c = 58 then (if S.pos = 2 then { S with pos := 3, method := S.method || isMethod S.key } else S)
  else if c = 44 then { S with inID := false, pos := if S.depth = 1 then 1 else S.pos }
  else { S with raw := if S.inID = true then upL S.raw c 64 else S.raw }

/-- One byte. -/
def step (S : Sc) (c : Int) : Sc := if S.str = true then inStr S c else swV (preV S c) c

/-- feed. -/
def feedL (S : Sc) (xs : List Int) : Sc := xs.foldl step S

theorem feedL_nil (S : Sc) : feedL S [] = S := rfl
theorem feedL_cons (S : Sc) (c : Int) (r : List Int) : feedL S (c :: r) = feedL (step S c) r := rfl
theorem feedL_append (S : Sc) (a b : List Int) : feedL S (a ++ b) = feedL (feedL S a) b := by simp [feedL]
theorem feedL_snoc (S : Sc) (a : List Int) (c : Int) : feedL S (a ++ [c]) = step (feedL S a) c := by simp [feedL]

/-- A string's byte that is skipped. -/
theorem step_skip (S : Sc) (c : Int) (h1 : S.str = true) (h2 : S.inKey = false) (h3 : S.inID = false) (h4 : S.esc = false) (h5 : c ≠ 34) (h6 : c ≠ 92) : step S c = S := by
  obtain ⟨depth, str, esc, pos, inKey, key, inID, raw, method⟩ := S
  simp only at h1 h2 h3 h4
  subst h1 h2 h3 h4
  simp [step, inStr, h5, h6]

theorem feedL_skip (S : Sc) (xs : List Int) (h1 : S.str = true) (h2 : S.inKey = false) (h3 : S.inID = false) (h4 : S.esc = false) (h : ∀ c ∈ xs, c ≠ 34 ∧ c ≠ 92) : feedL S xs = S := by
  induction xs with
  | nil => rfl
  | cons c r ih =>
    rw [feedL_cons, step_skip S c h1 h2 h3 h4 (h c (by simp)).1 (h c (by simp)).2]
    exact ih (fun x hx => h x (by simp [hx]))

/-- The first c at or after i, or the length. -/
def idxFrom (xs : List Int) (i : Nat) (c : Int) : Nat := i + ((xs.drop i).takeWhile (fun x => x != c)).length

theorem idxFrom_le (xs : List Int) (i : Nat) (c : Int) (h : i ≤ xs.length) : i ≤ idxFrom xs i c ∧ idxFrom xs i c ≤ xs.length := by
  unfold idxFrom
  have h1 : ((xs.drop i).takeWhile (fun x => x != c)).length ≤ (xs.drop i).length := (List.takeWhile_prefix _).length_le
  rw [List.length_drop] at h1
  omega

theorem mem_takeWhile_sat {p : Int → Bool} {l : List Int} {x : Int} (h : x ∈ l.takeWhile p) : p x = true := by
  induction l with
  | nil => simp at h
  | cons a r ih =>
    by_cases ha : p a = true
    · rw [List.takeWhile_cons_of_pos ha] at h
      rcases List.mem_cons.1 h with rfl | h
      · exact ha
      · exact ih h
    · rw [List.takeWhile_cons_of_neg ha] at h
      simp at h

theorem getD_takeWhile {p : Int → Bool} {l : List Int} {j : Nat} (h : j < (l.takeWhile p).length) : p (l.getD j 0) = true := by
  have hp := List.takeWhile_prefix p (l := l)
  have hj : j < l.length := Nat.lt_of_lt_of_le h hp.length_le
  have e : l.getD j 0 = (l.takeWhile p)[j] := by
    simp [List.getD, hj]
    exact (hp.getElem h).symm
  rw [e]
  exact mem_takeWhile_sat (List.getElem_mem h)

/-- Before it: no c. -/
theorem idxFrom_before (xs : List Int) (i : Nat) (c : Int) (j : Nat) (h1 : i ≤ j) (h2 : j < idxFrom xs i c) : xs.getD j 0 ≠ c := by
  unfold idxFrom at h2
  have := getD_takeWhile (p := fun x => x != c) (l := xs.drop i) (j := j - i) (by omega)
  have e : (xs.drop i).getD (j - i) 0 = xs.getD j 0 := by
    simp [List.getD, List.getElem?_drop, show i + (j - i) = j by omega]
  rw [e] at this
  simpa using this

/-- At it, where it is not the end: c. -/
theorem idxFrom_at (xs : List Int) (i : Nat) (c : Int) (h : idxFrom xs i c < xs.length) : xs.getD (idxFrom xs i c) 0 = c := by
  unfold idxFrom at h ⊢
  generalize hl : xs.drop i = l at h ⊢
  have hx : ∀ k, xs.getD (i + k) 0 = l.getD k 0 := by
    intro k
    rw [← hl]
    simp [List.getD, List.getElem?_drop]
  rw [hx]
  have hlen : (l.takeWhile fun x => x != c).length < l.length := by
    rw [← hl] at h ⊢
    rw [List.length_drop]
    omega
  clear h hl hx
  induction l with
  | nil => simp at hlen
  | cons a r ih =>
    by_cases ha : (a != c) = true
    · rw [List.takeWhile_cons_of_pos (p := fun x => x != c) ha] at hlen ⊢
      simp only [List.length_cons] at hlen ⊢
      have := ih (by omega)
      simpa [List.getD] using this
    · rw [List.takeWhile_cons_of_neg (p := fun x => x != c) ha]
      simpa using ha

/-- What is known of a first place stays known further on. -/
theorem idxFrom_later (xs : List Int) (i j : Nat) (c : Int) (h1 : i ≤ j) (h2 : j ≤ idxFrom xs i c) (hl : i ≤ xs.length) : idxFrom xs j c = idxFrom xs i c := by
  have hb := idxFrom_le xs i c hl
  have hj := idxFrom_le xs j c (by omega)
  have a1 : ¬ idxFrom xs j c < idxFrom xs i c := fun h => by
    have := idxFrom_at xs j c (by omega)
    exact idxFrom_before xs i c _ (by omega) h this
  have a2 : ¬ idxFrom xs i c < idxFrom xs j c := fun h => by
    have := idxFrom_at xs i c (by omega)
    exact idxFrom_before xs j c _ h2 h this
  omega

theorem take_succ_getD (xs : List Int) (i : Nat) (h : i < xs.length) : xs.take (i + 1) = xs.take i ++ [xs.getD i 0] := by
  rw [List.take_succ_eq_append_getElem h]
  simp [List.getD, h]

/-- The bytes between i and j are skipped. -/
theorem feedL_jump (S0 S : Sc) (xs : List Int) (i j : Nat) (hS : S = feedL S0 (xs.take i)) (h1 : S.str = true) (h2 : S.inKey = false) (h3 : S.inID = false) (h4 : S.esc = false) (hij : i ≤ j) (hj : j ≤ xs.length)
    (h : ∀ k, i ≤ k → k < j → xs.getD k 0 ≠ 34 ∧ xs.getD k 0 ≠ 92) : feedL S0 (xs.take j) = S := by
  obtain ⟨d, rfl⟩ : ∃ d, j = i + d := ⟨j - i, by omega⟩
  clear hij
  induction d with
  | zero => exact hS.symm
  | succ d ih =>
    rw [show i + (d + 1) = (i + d) + 1 by omega, take_succ_getD xs (i + d) (by omega), feedL_snoc, ih (by omega) (fun k hk hk' => h k hk (by omega))]
    have := h (i + d) (by omega) (by omega)
    exact step_skip S _ h1 h2 h3 h4 this.1 this.2

/-! ### The events -/

/-- Does the line's start read 'data:'? -/
def isData (f : List Int) : Bool := (strOfNums f).toList == [100, 97, 116, 97, 58]

/-- The events' state and the scan's. -/
structure Ev where
  line : Nat
  field : List Int
  sc : Sc

/-- One byte of a line. -/
def byteE (E : Ev) (c : Int) : Ev :=
  if E.field.length < 5 then { line := E.line + 1, field := E.field ++ [c], sc := E.sc }
  else { line := E.line + 1, field := E.field, sc := if isData E.field = true then step E.sc c else E.sc }

def takeL (E : Ev) (seg : List Int) : Ev := seg.foldl byteE E

theorem takeL_full (seg : List Int) : ∀ (E : Ev), ¬ E.field.length < 5 → takeL E seg = { line := E.line + seg.length, field := E.field, sc := if isData E.field = true then feedL E.sc seg else E.sc } := by
  induction seg with
  | nil => intro E h; simp [takeL, feedL]
  | cons c r ih =>
    intro E h
    show takeL (byteE E c) r = _
    rw [byteE, if_neg h, ih { line := E.line + 1, field := E.field, sc := if isData E.field = true then step E.sc c else E.sc } h]
    simp only [List.length_cons, Ev.mk.injEq]
    refine ⟨by omega, trivial, ?_⟩
    by_cases hd : isData E.field = true <;> simp [hd, feedL]

theorem isData_len (f : List Int) (h : isData f = true) : f.length = 5 := by
  have h1 : (strOfNums f).toList = [100, 97, 116, 97, 58] := by simpa [isData] using h
  have h2 := congrArg List.length h1
  have h3 : (strOfNums f).toList.length = (strOfNums f).size := by
    rw [show (strOfNums f).toList = (strOfNums f).data.toList from ?_]
    · rfl
    · exact Lib.toList_data _
  rw [h3, strOfNums_size] at h2
  simpa using h2

/-- take, in one formula. -/
theorem takeL_eq (seg : List Int) : ∀ (E : Ev), E.field.length ≤ 5 →
    takeL E seg = { line := E.line + seg.length, field := E.field ++ seg.take (5 - E.field.length), sc := if isData (E.field ++ seg.take (5 - E.field.length)) = true then feedL E.sc (seg.drop (5 - E.field.length)) else E.sc } := by
  induction seg with
  | nil => intro E h; simp [takeL, feedL]
  | cons c r ih =>
    intro E h
    by_cases h5 : E.field.length < 5
    · show takeL (byteE E c) r = _
      rw [byteE, if_pos h5, ih _ (by simp; omega)]
      obtain ⟨k, hk⟩ : ∃ k, 5 - E.field.length = k + 1 := ⟨5 - E.field.length - 1, by omega⟩
      have hk' : 5 - (E.field ++ [c]).length = k := by simp; omega
      simp only [hk', hk, List.length_cons, List.take_succ_cons, List.drop_succ_cons, List.append_assoc, List.singleton_append, Ev.mk.injEq]
      exact ⟨by omega, trivial, trivial⟩
    · rw [takeL_full _ E h5]
      have e0 : 5 - E.field.length = 0 := by omega
      simp [e0]

/-- The line that has ended is blank. -/
def blankE (E : Ev) : Bool := E.line == 0 || (E.line == 1 && E.field.getD 0 0 == 13)

def resetE (E : Ev) : Ev := { line := 0, field := [], sc := E.sc }

/-- What split comes to: the state behind it, how many bytes, whether an event has ended, its delimiter. -/
structure Out where
  ev : Ev
  n : Nat
  ok : Bool
  delim : Nat

def Out.more (o : Out) (k : Nat) : Out := { o with n := o.n + k }

def splitL : Ev → List Int → Out
  | E, [] => { ev := E, n := 0, ok := false, delim := 0 }
  | E, c :: r =>
    if c = 10 then
      (if blankE E = true then { ev := resetE E, n := 1, ok := true, delim := E.line + 1 } else (splitL (resetE E) r).more 1)
    else (splitL (byteE E c) r).more 1

theorem splitL_nil (E : Ev) : splitL E [] = { ev := E, n := 0, ok := false, delim := 0 } := rfl

theorem more_zero (o : Out) : o.more 0 = o := rfl
theorem more_more (o : Out) (a b : Nat) : (o.more a).more b = o.more (a + b) := by simp [Out.more, Nat.add_assoc]

theorem splitL_seg (seg : List Int) : ∀ (E : Ev) (r : List Int), (∀ c ∈ seg, c ≠ 10) → splitL E (seg ++ r) = (splitL (takeL E seg) r).more seg.length := by
  induction seg with
  | nil => intro E r _; simp [takeL, more_zero]
  | cons c s ih =>
    intro E r h
    rw [List.cons_append]
    show (if c = 10 then _ else (splitL (byteE E c) (s ++ r)).more 1) = _
    rw [if_neg (h c (by simp)), ih _ _ (fun x hx => h x (by simp [hx])), more_more]
    rfl

theorem splitL_line (E : Ev) (seg r : List Int) (h : ∀ c ∈ seg, c ≠ 10) :
    splitL E (seg ++ 10 :: r) = if blankE (takeL E seg) = true then { ev := resetE (takeL E seg), n := seg.length + 1, ok := true, delim := (takeL E seg).line + 1 } else (splitL (resetE (takeL E seg)) r).more (seg.length + 1) := by
  rw [splitL_seg seg E _ h]
  show (if (10 : Int) = 10 then (if blankE (takeL E seg) = true then _ else _) else _ : Out).more seg.length = _
  rw [if_pos rfl]
  by_cases hb : blankE (takeL E seg) = true
  · simp [hb, Out.more, Nat.add_comm]
  · simp [hb, Out.more]
    omega

theorem splitL_last (E : Ev) (seg : List Int) (h : ∀ c ∈ seg, c ≠ 10) : splitL E seg = { ev := takeL E seg, n := seg.length, ok := false, delim := 0 } := by
  have := splitL_seg seg E [] h
  rw [List.append_nil] at this
  rw [this, splitL_nil]
  simp [Out.more]

/-- No event: all has been read. -/
theorem splitL_no (l : List Int) : ∀ (E : Ev), (splitL E l).ok = false → (splitL E l).n = l.length ∧ (splitL E l).delim = 0 := by
  induction l with
  | nil => intro E _; simp [splitL]
  | cons c r ih =>
    intro E h
    by_cases hc : c = 10
    · by_cases hb : blankE E = true
      · simp [splitL, hc, hb] at h
      · simp only [splitL, hc, hb, if_true, Out.more] at h ⊢
        have := ih _ h
        simp at this ⊢
        exact this
    · simp only [splitL, hc, if_false, Out.more] at h ⊢
      have := ih _ h
      simp at this ⊢
      exact this

theorem splitL_le (l : List Int) : ∀ (E : Ev), (splitL E l).n ≤ l.length := by
  induction l with
  | nil => intro E; simp [splitL]
  | cons c r ih =>
    intro E
    by_cases hc : c = 10
    · by_cases hb : blankE E = true
      · simp [splitL, hc, hb]
      · have := ih (resetE E)
        simp only [splitL, hc, hb, if_true, Out.more]
        simp
        exact this
    · have := ih (byteE E c)
      simp only [splitL, hc, if_false, Out.more]
      simp
      exact this

/-- TWO PIECES. -/
theorem splitL_two (a : List Int) : ∀ (E : Ev) (b : List Int), splitL E (a ++ b) = if (splitL E a).ok = true then splitL E a else (splitL (splitL E a).ev b).more a.length := by
  induction a with
  | nil => intro E b; simp [splitL, more_zero]
  | cons c r ih =>
    intro E b
    rw [List.cons_append]
    by_cases hc : c = 10
    · by_cases hb : blankE E = true
      · simp [splitL, hc, hb]
      · simp only [splitL, hc, hb, if_true, Out.more, Bool.false_eq_true, if_false]
        rw [ih]
        by_cases ho : (splitL (resetE E) r).ok = true
        · simp [ho]
        · simp [ho, Out.more, Nat.add_assoc]
    · simp only [splitL, hc, if_false, Out.more]
      rw [ih]
      by_cases ho : (splitL (byteE E c) r).ok = true
      · simp [ho]
      · simp [ho, Out.more, Nat.add_assoc]

theorem byteE_len (E : Ev) (c : Int) (h : E.field.length = min E.line 5) : (byteE E c).field.length = min (byteE E c).line 5 := by
  unfold byteE
  by_cases h5 : E.field.length < 5
  · rw [if_pos h5]
    simp
    omega
  · rw [if_neg h5]
    simp
    omega

theorem takeL_len (seg : List Int) : ∀ (E : Ev), E.field.length = min E.line 5 → (takeL E seg).field.length = min (takeL E seg).line 5 := by
  induction seg with
  | nil => intro E h; exact h
  | cons c r ih => intro E h; exact ih _ (byteE_len E c h)

/-- The bytes of the field are bytes. -/
theorem takeL_wf (seg : List Int) (p : Int → Prop) (hs : ∀ c ∈ seg, p c) : ∀ (E : Ev), (∀ c ∈ E.field, p c) → ∀ c ∈ (takeL E seg).field, p c := by
  induction seg with
  | nil => intro E h; exact h
  | cons x r ih =>
    intro E h
    refine ih (fun c hc => hs c (by simp [hc])) (byteE E x) ?_
    intro c hc
    unfold byteE at hc
    split at hc
    · simp at hc
      rcases hc with hc | rfl
      · exact h c hc
      · exact hs _ (by simp)
    · exact h c hc

theorem splitL_len (l : List Int) : ∀ (E : Ev), E.field.length = min E.line 5 → (splitL E l).ev.field.length = min (splitL E l).ev.line 5 := by
  induction l with
  | nil => intro E h; exact h
  | cons c r ih =>
    intro E h
    by_cases hc : c = 10
    · by_cases hb : blankE E = true
      · simp [splitL, hc, hb, resetE]
      · simp only [splitL, hc, hb, if_true, Out.more]
        exact ih _ (by simp [resetE])
    · simp only [splitL, hc, if_false, Out.more]
      exact ih _ (byteE_len E c h)

end Go.Proofs.Qxb6603984aMods.Plain
