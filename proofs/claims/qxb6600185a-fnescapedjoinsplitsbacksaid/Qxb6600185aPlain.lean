/-
  Escaping, joining, splitting and unescaping on lists of bytes: no Go in sight.
-/
namespace Go.Proofs.Qxb6600185a.Es

/-- One byte, escaped. -/
def escC (sep c : UInt8) : List UInt8 := if c == 92 || c == sep then [92, c] else [c]
/-- A piece, escaped. -/
def esc (sep : UInt8) (l : List UInt8) : List UInt8 := l.flatMap (escC sep)
/-- Further pieces, each behind a separator. -/
def more (sep : UInt8) (r : List (List UInt8)) : List UInt8 := r.flatMap fun q => sep :: esc sep q
/-- The pieces, escaped and joined. -/
def jn (sep : UInt8) : List (List UInt8) → List UInt8
  | [] => []
  | p :: r => esc sep p ++ more sep r

/-- Splitting at each separator that no backslash escapes; cur: what has been read of the part at hand. -/
def splitGo (sep : UInt8) : List UInt8 → List UInt8 → List (List UInt8)
  | [], cur => [cur]
  | [c], cur => if c == 92 then [cur ++ [c]] else if c == sep then [cur, []] else [cur ++ [c]]
  | c :: d :: r, cur => if c == 92 then splitGo sep r (cur ++ [c, d]) else if c == sep then cur :: splitGo sep (d :: r) [] else splitGo sep (d :: r) (cur ++ [c])

/-- Each backslash dropped, the byte behind it taken as it is. -/
def unesc : List UInt8 → List UInt8
  | [] => []
  | [c] => [c]
  | c :: d :: r => if c == 92 then d :: unesc r else c :: unesc (d :: r)

theorem splitGo_plain (sep c : UInt8) (X cur : List UInt8) (h1 : (c == 92) = false) (h2 : (c == sep) = false) : splitGo sep (c :: X) cur = splitGo sep X (cur ++ [c]) := by
  cases X with
  | nil => simp [splitGo, h1, h2]
  | cons d r => simp [splitGo, h1, h2]

theorem splitGo_sep (sep : UInt8) (X cur : List UInt8) (h1 : (sep == 92) = false) : splitGo sep (sep :: X) cur = cur :: splitGo sep X [] := by
  cases X with
  | nil => simp [splitGo, h1]
  | cons d r => simp [splitGo, h1]

theorem splitGo_esc (sep d : UInt8) (X cur : List UInt8) : splitGo sep (92 :: d :: X) cur = splitGo sep X (cur ++ [92, d]) := by
  simp [splitGo]

theorem splitGo_escC (sep c : UInt8) (X cur : List UInt8) : splitGo sep (escC sep c ++ X) cur = splitGo sep X (cur ++ escC sep c) := by
  unfold escC
  cases h : c == 92 || c == sep with
  | true => simpa using splitGo_esc sep c X cur
  | false =>
    rw [Bool.or_eq_false_iff] at h
    simpa using splitGo_plain sep c X cur h.1 h.2

theorem splitGo_piece (sep : UInt8) (p X : List UInt8) : ∀ cur, splitGo sep (esc sep p ++ X) cur = splitGo sep X (cur ++ esc sep p) := by
  induction p with
  | nil => intro cur; simp [esc]
  | cons c p ih =>
    intro cur
    have e : esc sep (c :: p) = escC sep c ++ esc sep p := by simp [esc]
    rw [e, List.append_assoc, splitGo_escC, ih, List.append_assoc]

theorem splitGo_more (sep : UInt8) (h1 : (sep == 92) = false) (r : List (List UInt8)) : ∀ cur, splitGo sep (more sep r) cur = cur :: r.map (esc sep) := by
  induction r with
  | nil => intro cur; simp [more, splitGo]
  | cons q r ih =>
    intro cur
    have e : more sep (q :: r) = sep :: (esc sep q ++ more sep r) := by simp [more]
    rw [e, splitGo_sep sep _ _ h1, splitGo_piece, ih]
    simp

theorem split_jn (sep : UInt8) (h1 : (sep == 92) = false) (ps : List (List UInt8)) (hne : ps ≠ []) : splitGo sep (jn sep ps) [] = ps.map (esc sep) := by
  cases ps with
  | nil => exact absurd rfl hne
  | cons p r =>
    unfold jn
    rw [splitGo_piece, splitGo_more sep h1]
    simp

theorem unesc_plain (c : UInt8) (X : List UInt8) (h : (c == 92) = false) : unesc (c :: X) = c :: unesc X := by
  cases X with
  | nil => simp [unesc]
  | cons d r => simp [unesc, h]

theorem unesc_esc (sep : UInt8) (p : List UInt8) : unesc (esc sep p) = p := by
  induction p with
  | nil => rfl
  | cons c p ih =>
    have e : esc sep (c :: p) = escC sep c ++ esc sep p := by simp [esc]
    rw [e]
    unfold escC
    cases h : c == 92 || c == sep with
    | true =>
      simp only [if_true, List.cons_append, List.nil_append, unesc]
      rw [if_pos (by rfl), ih]
    | false =>
      rw [Bool.or_eq_false_iff] at h
      simp only [Bool.false_eq_true, if_false, List.cons_append, List.nil_append]
      rw [unesc_plain c _ h.1, ih]

/-! the loops' steps, by place -/

theorem drop_cons (l : List UInt8) (i : Nat) (h : i < l.length) : l.drop i = l[i] :: l.drop (i + 1) := List.drop_eq_getElem_cons h

theorem cur_one (l : List UInt8) (a i : Nat) (ha : a ≤ i) (h : i < l.length) : (l.drop a).take (i - a) ++ [l[i]] = (l.drop a).take (i + 1 - a) := by
  rw [show i + 1 - a = (i - a) + 1 from by omega, List.take_succ_eq_append_getElem (by rw [List.length_drop]; omega)]
  congr 2
  rw [List.getElem_drop]
  congr 1
  omega

theorem cur_two (l : List UInt8) (a i : Nat) (ha : a ≤ i) : (l.drop a).take (i - a) ++ (l.drop i).take 2 = (l.drop a).take (i + 2 - a) := by
  rw [show i + 2 - a = (i - a) + 2 from by omega, List.take_add, List.drop_drop, show a + (i - a) = i from by omega]

theorem split_at_esc (sep : UInt8) (l : List UInt8) (i : Nat) (h : i < l.length) (hc : l[i] = 92) (cur : List UInt8) : splitGo sep (l.drop i) cur = splitGo sep (l.drop (i + 2)) (cur ++ (l.drop i).take 2) := by
  rw [drop_cons l i h, hc]
  rcases Nat.lt_or_ge (i + 1) l.length with h1 | h1
  · rw [drop_cons l (i + 1) h1, splitGo_esc]
    simp only [List.take_succ_cons, List.take_zero]
  · rw [List.drop_eq_nil_of_le h1, List.drop_eq_nil_of_le (show l.length ≤ i + 2 by omega)]
    simp [splitGo]

theorem split_at_sep (sep : UInt8) (l : List UInt8) (i : Nat) (h : i < l.length) (h1 : (sep == 92) = false) (hc : l[i] = sep) (cur : List UInt8) : splitGo sep (l.drop i) cur = cur :: splitGo sep (l.drop (i + 1)) [] := by
  rw [drop_cons l i h, hc, splitGo_sep sep _ _ h1]

theorem split_at_plain (sep : UInt8) (l : List UInt8) (i : Nat) (h : i < l.length) (h1 : (l[i] == 92) = false) (h2 : (l[i] == sep) = false) (cur : List UInt8) : splitGo sep (l.drop i) cur = splitGo sep (l.drop (i + 1)) (cur ++ [l[i]]) := by
  rw [drop_cons l i h, splitGo_plain sep _ _ _ h1 h2]

theorem unesc_at_esc (l : List UInt8) (i : Nat) (h : i + 1 < l.length) (hc : (l[i] == 92) = true) : unesc (l.drop i) = l[i + 1] :: unesc (l.drop (i + 2)) := by
  rw [drop_cons l i (by omega), drop_cons l (i + 1) h]
  simp only [unesc]
  rw [if_pos hc]

theorem unesc_at_plain (l : List UInt8) (i : Nat) (h : i < l.length) (hc : (l[i] == 92) = false ∨ i + 1 = l.length) : unesc (l.drop i) = l[i] :: unesc (l.drop (i + 1)) := by
  rw [drop_cons l i h]
  rcases hc with hc | hc
  · exact unesc_plain _ _ hc
  · rw [List.drop_eq_nil_of_le (show l.length ≤ i + 1 by omega)]
    rfl

/-- Without a backslash nothing is dropped. -/
theorem unesc_none (l : List UInt8) (h : ∀ c ∈ l, (c == 92) = false) : unesc l = l := by
  induction l with
  | nil => rfl
  | cons c l ih =>
    rw [unesc_plain c l (h c (by simp)), ih fun d hd => h d (by simp [hd])]

/-! the joining loop's steps -/
theorem esc_take (sep : UInt8) (p : List UInt8) (j : Nat) (h : j < p.length) : esc sep (p.take (j + 1)) = esc sep (p.take j) ++ escC sep p[j] := by
  rw [List.take_succ_eq_append_getElem h]
  unfold esc
  rw [List.flatMap_append]
  simp only [List.flatMap_cons, List.flatMap_nil, List.append_nil]

theorem jn_one (sep : UInt8) (p : List UInt8) : jn sep [p] = esc sep p := by simp [jn, more]

theorem jn_snoc (sep : UInt8) (ps : List (List UInt8)) (q : List UInt8) (h : ps ≠ []) : jn sep (ps ++ [q]) = jn sep ps ++ [sep] ++ esc sep q := by
  cases ps with
  | nil => exact absurd rfl h
  | cons p r => simp [jn, more]

theorem esc_length (sep : UInt8) (p : List UInt8) : (esc sep p).length ≤ 2 * p.length := by
  induction p with
  | nil => simp [esc]
  | cons c p ih =>
    have e : esc sep (c :: p) = escC sep c ++ esc sep p := by simp [esc]
    rw [e, List.length_append]
    have : (escC sep c).length ≤ 2 := by unfold escC; split <;> simp
    simp only [List.length_cons]
    omega

/-- All the bytes of some pieces. -/
def total (ps : List (List UInt8)) : Nat := (ps.map List.length).sum

theorem more_length (sep : UInt8) (r : List (List UInt8)) : (more sep r).length ≤ 2 * total r + r.length := by
  induction r with
  | nil => simp [more, total]
  | cons q r ih =>
    have e : more sep (q :: r) = sep :: (esc sep q ++ more sep r) := by simp [more]
    have := esc_length sep q
    rw [e]
    simp only [List.length_cons, List.length_append, total, List.map_cons, List.sum_cons] at *
    omega

theorem jn_length (sep : UInt8) (ps : List (List UInt8)) : (jn sep ps).length ≤ 2 * total ps + ps.length := by
  cases ps with
  | nil => simp [jn, total]
  | cons p r =>
    have h1 := esc_length sep p
    have h2 := more_length sep r
    simp only [jn, List.length_append, total, List.map_cons, List.sum_cons, List.length_cons] at *
    omega

theorem total_take (ps : List (List UInt8)) (k : Nat) (h : k < ps.length) : total (ps.take (k + 1)) = total (ps.take k) + ps[k].length := by
  rw [List.take_succ_eq_append_getElem h]
  unfold total
  rw [List.map_append, List.sum_append]
  simp only [List.map_cons, List.map_nil, List.sum_cons, List.sum_nil, Nat.add_zero]

theorem total_take_le (ps : List (List UInt8)) (k : Nat) : total (ps.take k) ≤ total ps := by
  have : total ps = total (ps.take k) + total (ps.drop k) := by
    unfold total
    rw [← List.sum_append, ← List.map_append, List.take_append_drop]
  omega

end Go.Proofs.Qxb6600185a.Es
