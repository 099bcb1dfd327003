/-
  Plain functions over the bytes of a text (a list of integers), no Go in sight: what the token reader computes.
-/
namespace Go.Proofs.Qxb6001751aFmt.Tk

/-- White space or a separator. -/
def sepB (c : Int) : Bool := c == 32 || c == 9 || c == 13 || c == 10 || c == 44 || c == 58

/-- The offset of the first byte at or behind p that is no separator. -/
def firstAt (D : List Int) (p : Nat) : Nat := p + ((D.drop p).takeWhile sepB).length

theorem drop_cons (D : List Int) (k : Nat) (h : k < D.length) : D.drop k = D.getD k 0 :: D.drop (k + 1) := by
  rw [List.drop_eq_getElem_cons h]
  simp [List.getD, List.getElem?_eq_getElem h]

theorem firstAt_sep (D : List Int) (k : Nat) (h : k < D.length) (hs : sepB (D.getD k 0) = true) : firstAt D (k + 1) = firstAt D k := by
  unfold firstAt
  rw [drop_cons D k h, List.takeWhile_cons, if_pos hs]
  simp only [List.length_cons]
  omega

theorem firstAt_not (D : List Int) (k : Nat) (h : k < D.length) (hs : sepB (D.getD k 0) = false) : firstAt D k = k := by
  unfold firstAt
  rw [drop_cons D k h, List.takeWhile_cons, if_neg (by rw [hs]; simp)]
  simp

theorem firstAt_end (D : List Int) (k : Nat) (h : D.length ≤ k) : firstAt D k = k := by
  unfold firstAt
  rw [List.drop_eq_nil_of_le h]
  simp

theorem firstAt_ge (D : List Int) (k : Nat) : k ≤ firstAt D k := by unfold firstAt; omega

theorem takeWhile_len (p : Int → Bool) (l : List Int) : (l.takeWhile p).length ≤ l.length := by
  induction l with
  | nil => simp
  | cons a l ih => rw [List.takeWhile_cons]; split <;> simp <;> omega

theorem firstAt_le (D : List Int) (k : Nat) (h : k ≤ D.length) : firstAt D k ≤ D.length := by
  unfold firstAt
  have := takeWhile_len sepB (D.drop k)
  rw [List.length_drop] at this
  omega

theorem takeWhile_stop (p : Int → Bool) (l : List Int) (h : (l.takeWhile p).length < l.length) : p (l.getD (l.takeWhile p).length 0) = false := by
  induction l with
  | nil => simp at h
  | cons a l ih =>
    by_cases ha : p a = true
    · rw [List.takeWhile_cons, if_pos ha] at h ⊢
      simp only [List.length_cons] at h ⊢
      have := ih (by omega)
      simpa [List.getD] using this
    · rw [List.takeWhile_cons, if_neg ha]
      simpa [List.getD] using ha

theorem firstAt_stop (D : List Int) (k : Nat) (h : firstAt D k < D.length) : sepB (D.getD (firstAt D k) 0) = false := by
  have hk : k ≤ D.length := by have := firstAt_ge D k; omega
  unfold firstAt at *
  have := takeWhile_stop sepB (D.drop k) (by rw [List.length_drop]; omega)
  simpa [List.getD, List.getElem?_drop] using this

/-- The length of what stands ahead of a string's closing quote, where there is one. -/
def strEnd : List Int → Option Nat
  | [] => none
  | [c] => if c == 34 then some 0 else none
  | c :: d :: r => if c == 34 then some 0 else if c == 92 then (strEnd r).map (· + 2) else (strEnd (d :: r)).map (· + 1)

theorem strEnd_quote (r : List Int) : strEnd (34 :: r) = some 0 := by cases r <;> simp [strEnd]

theorem strEnd_esc (d : Int) (r : List Int) : strEnd (92 :: d :: r) = (strEnd r).map (· + 2) := by simp [strEnd]

theorem strEnd_esc1 : strEnd [92] = none := by simp [strEnd]

theorem strEnd_plain (c : Int) (r : List Int) (h1 : (c == 34) = false) (h2 : (c == 92) = false) : strEnd (c :: r) = (strEnd r).map (· + 1) := by
  cases r <;> simp [strEnd, h1, h2]

/-- Where the string's closing quote stands, reckoned from the whole text. -/
theorem strEnd_lt (D : List Int) (j m : Nat) (h : strEnd (D.drop j) = some m) : j < D.length := by
  rcases Nat.lt_or_ge j D.length with hj | hj
  · exact hj
  · rw [List.drop_eq_nil_of_le hj] at h
    simp [strEnd] at h

theorem strEnd_step (D : List Int) (j m : Nat) (h : strEnd (D.drop j) = some m) :
    (D.getD j 0 = 34 ∧ m = 0) ∨ (D.getD j 0 = 92 ∧ 2 ≤ m ∧ strEnd (D.drop (j + 2)) = some (m - 2)) ∨ ((D.getD j 0 == 34) = false ∧ (D.getD j 0 == 92) = false ∧ 1 ≤ m ∧ strEnd (D.drop (j + 1)) = some (m - 1)) := by
  have hj := strEnd_lt D j m h
  rw [drop_cons D j hj] at h
  cases e1 : D.getD j 0 == 34 with
  | true =>
    simp only [beq_iff_eq] at e1
    rw [e1, strEnd_quote] at h
    exact .inl ⟨e1, by simpa using h.symm⟩
  | false =>
    cases e2 : D.getD j 0 == 92 with
    | true =>
      simp only [beq_iff_eq] at e2
      rcases Nat.lt_or_ge (j + 1) D.length with hj1 | hj1
      · rw [e2, drop_cons D (j + 1) hj1, strEnd_esc] at h
        obtain ⟨m', hm', hmm⟩ := Option.map_eq_some_iff.1 h
        exact .inr (.inl ⟨e2, by omega, by rw [hm']; congr 1; omega⟩)
      · rw [e2, List.drop_eq_nil_of_le hj1, strEnd_esc1] at h
        simp at h
    | false =>
      rw [strEnd_plain _ _ e1 e2] at h
      obtain ⟨m', hm', hmm⟩ := Option.map_eq_some_iff.1 h
      exact .inr (.inr ⟨rfl, rfl, by omega, by rw [hm']; congr 1; omega⟩)

theorem strEnd_quoteAt (D : List Int) : ∀ (m j : Nat), strEnd (D.drop j) = some m → j + m < D.length ∧ D.getD (j + m) 0 = 34 := by
  intro m
  induction m using Nat.strongRecOn with
  | _ m ih =>
    intro j h
    rcases strEnd_step D j m h with ⟨hc, rfl⟩ | ⟨_, hm, h2⟩ | ⟨_, _, hm, h2⟩
    · exact ⟨strEnd_lt D j 0 h, hc⟩
    · have := ih (m - 2) (by omega) (j + 2) h2
      rw [show j + 2 + (m - 2) = j + m from by omega] at this
      exact this
    · have := ih (m - 1) (by omega) (j + 1) h2
      rw [show j + 1 + (m - 1) = j + m from by omega] at this
      exact this

/-- A run of the bytes of a number. -/
def numB (c : Int) : Bool := [43, 45, 46, 48, 49, 50, 51, 52, 53, 54, 55, 56, 57, 69, 101].contains c

def numAt (D : List Int) (p : Nat) : Nat := p + ((D.drop p).takeWhile numB).length

theorem numAt_num (D : List Int) (k : Nat) (h : k < D.length) (hs : numB (D.getD k 0) = true) : numAt D (k + 1) = numAt D k := by
  unfold numAt
  rw [drop_cons D k h, List.takeWhile_cons, if_pos hs]
  simp only [List.length_cons]
  omega

theorem numAt_not (D : List Int) (k : Nat) (h : k < D.length) (hs : numB (D.getD k 0) = false) : numAt D k = k := by
  unfold numAt
  rw [drop_cons D k h, List.takeWhile_cons, if_neg (by rw [hs]; simp)]
  simp

theorem numAt_end (D : List Int) (k : Nat) (h : D.length ≤ k) : numAt D k = k := by
  unfold numAt
  rw [List.drop_eq_nil_of_le h]
  simp

theorem numAt_ge (D : List Int) (k : Nat) : k ≤ numAt D k := by unfold numAt; omega

theorem numAt_le (D : List Int) (k : Nat) (h : k ≤ D.length) : numAt D k ≤ D.length := by
  unfold numAt
  have := takeWhile_len numB (D.drop k)
  rw [List.length_drop] at this
  omega

/-- The kind of the token that the byte c opens. -/
def kindOf (c : Int) : Int := if [123, 125, 91, 93, 34, 116, 110, 102].contains c then c else 48

/-- Where the token that opens at i ends. -/
def endOf (D : List Int) (i : Nat) : Nat :=
  if [123, 125, 91, 93].contains (D.getD i 0) then i + 1
  else if D.getD i 0 == 34 then i + 1 + (strEnd (D.drop (i + 1))).getD 0 + 1
  else if D.getD i 0 == 116 || D.getD i 0 == 110 then i + 4
  else if D.getD i 0 == 102 then i + 5
  else numAt D i

/-- Is the token that opens at i whole? -/
def wholeB (D : List Int) (i : Nat) : Bool :=
  if D.getD i 0 == 34 then (strEnd (D.drop (i + 1))).isSome
  else if D.getD i 0 == 116 || D.getD i 0 == 110 then decide (4 ≤ D.length - i)
  else if D.getD i 0 == 102 then decide (5 ≤ D.length - i)
  else true

/-- The token that is read from p on: its kind. -/
def nextKind (D : List Int) (p : Nat) : Int := if firstAt D p = D.length then 0 else kindOf (D.getD (firstAt D p) 0)
/-- The token that is read from p on: where the reader stands behind it. -/
def nextPos (D : List Int) (p : Nat) : Nat := if firstAt D p = D.length then firstAt D p else endOf D (firstAt D p)
/-- Is what is read from p on whole? -/
def readB (D : List Int) (p : Nat) : Bool := if firstAt D p = D.length then true else wholeB D (firstAt D p)

/-- A text that opens with separators alone, then a byte that is none. -/
theorem firstAt_seps (S R : List Int) (c : Int) (hS : S.all sepB = true) (hc : sepB c = false) : firstAt (S ++ [c] ++ R) 0 = S.length := by
  have hw : ∀ l : List Int, l.all sepB = true → ((l ++ [c] ++ R).takeWhile sepB).length = l.length := by
    intro l
    induction l with
    | nil => intro _; simp [hc]
    | cons a l ih =>
      intro h
      rw [List.all_cons, Bool.and_eq_true] at h
      have := ih h.2
      simp only [List.cons_append, List.takeWhile_cons, if_pos h.1, List.length_cons]
      omega
  unfold firstAt
  rw [List.drop_zero, hw S hS]
  omega

theorem getD_mid (S R : List Int) (c : Int) : (S ++ [c] ++ R).getD S.length 0 = c := by
  simp [List.getD]

/-- A bracket behind separators: what the reader makes of it. -/
theorem bracket_next (S R : List Int) (c : Int) (hS : S.all sepB = true) (hc : c = 123 ∨ c = 125 ∨ c = 91 ∨ c = 93) :
    nextKind (S ++ [c] ++ R) 0 = c ∧ nextPos (S ++ [c] ++ R) 0 = S.length + 1 ∧ readB (S ++ [c] ++ R) 0 = true := by
  have hsep : sepB c = false := by rcases hc with rfl | rfl | rfl | rfl <;> rfl
  have hf := firstAt_seps S R c hS hsep
  have hg := getD_mid S R c
  have hne : ¬ S.length = (S ++ [c] ++ R).length := by simp
  refine ⟨?_, ?_, ?_⟩
  · unfold nextKind
    rw [hf, if_neg hne, hg]
    rcases hc with rfl | rfl | rfl | rfl <;> rfl
  · unfold nextPos
    rw [hf, if_neg hne]
    unfold endOf
    rw [hg, if_pos (by rcases hc with rfl | rfl | rfl | rfl <;> rfl)]
  · unfold readB
    rw [hf, if_neg hne]
    unfold wholeB
    rw [hg]
    rcases hc with rfl | rfl | rfl | rfl <;> rfl

end Go.Proofs.Qxb6001751aFmt.Tk
