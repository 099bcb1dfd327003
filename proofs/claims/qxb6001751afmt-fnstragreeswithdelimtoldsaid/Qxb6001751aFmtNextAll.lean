import Derived.Test.Qxb6001751aFmtNextStr
import Derived.Test.Qxb6001751aFmtNextNum
namespace Go.Proofs.Qxb6001751aFmt
open Go.RowKit Tk

set_option maxHeartbeats 400000 in
theorem next_end (t : Nat) (ao : Option Addr) (cap : Nat) (D : List Int) (p : Nat) (w : World) (hD : Dat w ao D) (hne : ∀ b off, ao = some ⟨b, off, none⟩ → b ≠ t)
    (hlen : D.length ≤ 2097152) (hp : p ≤ D.length) (h0 : w.cell? ⟨t, 0, none⟩ = some (.slice ao D.length cap)) (h1 : w.cell? ⟨t, 1, none⟩ = some (.int .i64 p)) (hf : w.frozen? ⟨t, 1, none⟩ = false) (ht : t < w.heap.size)
    (he : firstAt D p = D.length) :
    Calls Tryf.prog 37 #[.pointer (some ⟨t, 0, none⟩)] w fun e w' => e = .returned (.agg #[.int .u8 0, .slice none 0 0]) ∧ Upd t D.length w w' := by
  go_enter Tryf.func37, Tryf.ntmps37
  go_wp2_with fail
  refine (skip_any t ao cap D p _ (hD.below ((Below.refl _ _).alloc (Nat.le_refl _) _)) hne hlen hp (by go_simp) (by go_simp) (by go_simp) (by simp; omega)).mono ?_
  rintro e w1 ⟨rfl, hu⟩
  have g0 : w1.cell? ⟨t, 0, none⟩ = some (.slice ao D.length cap) := hu.data.trans (by go_simp)
  have g1 := hu.pos
  have gf := hu.free
  have r0 : w1.cell? ⟨w.heap.size, 0, none⟩ = some (.int .u8 0) := (hu.cell (by simp) (by omega)).trans (by simp)
  have r1 : w1.cell? ⟨w.heap.size, 1, none⟩ = some (.slice none 0 0) := (hu.cell (by simp) (by omega)).trans (by simp)
  have rf0 : w1.frozen? ⟨w.heap.size, 0, none⟩ = false := (World.frozen?_of_block (w := _) (hu.block w.heap.size (by simp) (by omega))).trans (by simp)
  have rf1 : w1.frozen? ⟨w.heap.size, 1, none⟩ = false := (World.frozen?_of_block (w := _) (hu.block w.heap.size (by simp) (by omega))).trans (by simp)
  have hne2 : ¬ t = w.heap.size := by omega
  rw [he] at hu g1
  clear he h0 h1 hf
  go_wp2
  go_quiet (fail)
  go_wp2
  refine bodyPost_ret (res37 _ _ w.heap.size (.int .u8 0) (.slice none 0 0) rfl ?hx ?hy) rfl ⟨rfl, ?hu⟩
  case hx => exact (two_cells _ _ _ _ (by go_simp) (by go_simp)).1
  case hy => exact (two_cells _ _ _ _ (by go_simp) (by go_simp)).2
  case hu =>
    repeat (first | apply Upd.drewN | apply Upd.drew)
    refine Upd.setNew (Upd.setNew ?_ (Nat.le_refl _) hne2 _) (Nat.le_refl _) hne2 _
    repeat (first | apply Upd.drewN | apply Upd.drew)
    exact hu.ofAlloc ht

/-- The token's text as the slice that it is. -/
def nextText (ao : Option Addr) (cap : Nat) (D : List Int) (p : Nat) : Value :=
  if firstAt D p = D.length then .slice none 0 0 else match ao with
  | some a => .slice (some ⟨a.block, a.off + firstAt D p, none⟩) (nextPos D p - firstAt D p) (cap - firstAt D p)
  | none => .slice none 0 0

theorem endOf_brack {D : List Int} {i : Nat} (h : D.getD i 0 = 123 ∨ D.getD i 0 = 125 ∨ D.getD i 0 = 91 ∨ D.getD i 0 = 93) : endOf D i = i + 1 := by
  unfold endOf
  rcases h with h | h | h | h <;> simp only [h] <;> rfl

theorem endOf_str {D : List Int} {i m : Nat} (h : D.getD i 0 = 34) (hs : strEnd (D.drop (i + 1)) = some m) : endOf D i = i + 1 + m + 1 := by
  unfold endOf
  simp only [h, hs]
  rfl

theorem endOf_tn {D : List Int} {i : Nat} (h : D.getD i 0 = 116 ∨ D.getD i 0 = 110) : endOf D i = i + 4 := by
  unfold endOf
  rcases h with h | h <;> simp only [h] <;> rfl

theorem endOf_f {D : List Int} {i : Nat} (h : D.getD i 0 = 102) : endOf D i = i + 5 := by
  unfold endOf
  simp only [h]
  rfl

theorem endOf_num {D : List Int} {i : Nat} (n1 : (D.getD i 0 == 123) = false) (n2 : (D.getD i 0 == 125) = false) (n3 : (D.getD i 0 == 91) = false) (n4 : (D.getD i 0 == 93) = false) (n5 : (D.getD i 0 == 34) = false) (n6 : (D.getD i 0 == 116) = false) (n7 : (D.getD i 0 == 110) = false) (n8 : (D.getD i 0 == 102) = false) : endOf D i = numAt D i := by
  unfold endOf
  generalize D.getD i 0 = c at *
  simp only [List.contains_cons, List.contains_nil, n1, n2, n3, n4, n5, n6, n7, n8, Bool.or_false]
  rfl

theorem kindOf_num {c : Int} (n1 : (c == 123) = false) (n2 : (c == 125) = false) (n3 : (c == 91) = false) (n4 : (c == 93) = false) (n5 : (c == 34) = false) (n6 : (c == 116) = false) (n7 : (c == 110) = false) (n8 : (c == 102) = false) : kindOf c = 48 := by
  unfold kindOf
  simp only [List.contains_cons, List.contains_nil, n1, n2, n3, n4, n5, n6, n7, n8, Bool.or_false]
  rfl

/-- What is left to say of a token that opens at i < the length: where its walk is given. -/
theorem next_of {t b off cap : Nat} {D : List Int} {p k q : Nat} {w : World} (hi : firstAt D p < D.length) (hk : kindOf (D.getD (firstAt D p) 0) = k) (hq : endOf D (firstAt D p) = q)
    (h : Calls Tryf.prog 37 #[.pointer (some ⟨t, 0, none⟩)] w fun e w' => e = .returned (.agg #[.int .u8 (k : Int), .slice (some ⟨b, off + firstAt D p, none⟩) (q - firstAt D p) (cap - firstAt D p)]) ∧ Upd t q w w') :
    Calls Tryf.prog 37 #[.pointer (some ⟨t, 0, none⟩)] w fun e w' => e = .returned (.agg #[.int .u8 (nextKind D p), nextText (some ⟨b, off, none⟩) cap D p]) ∧ Upd t (nextPos D p) w w' := by
  have hn : ¬ firstAt D p = D.length := by omega
  have e1 : nextKind D p = k := by unfold nextKind; rw [if_neg hn, hk]
  have e2 : nextPos D p = q := by unfold nextPos; rw [if_neg hn, hq]
  have e3 : nextText (some ⟨b, off, none⟩) cap D p = .slice (some ⟨b, off + firstAt D p, none⟩) (q - firstAt D p) (cap - firstAt D p) := by
    unfold nextText
    rw [if_neg hn, e2]
  rw [e1, e2, e3]
  exact h

theorem next_any (t : Nat) (ao : Option Addr) (cap : Nat) (D : List Int) (p : Nat) (w : World) (hD : Dat w ao D) (hne : ∀ b off, ao = some ⟨b, off, none⟩ → b ≠ t) (hby : Bytes D)
    (hlen : D.length ≤ 2097152) (hcap : D.length ≤ cap) (hp : p ≤ D.length) (h0 : w.cell? ⟨t, 0, none⟩ = some (.slice ao D.length cap)) (h1 : w.cell? ⟨t, 1, none⟩ = some (.int .i64 p)) (hf : w.frozen? ⟨t, 1, none⟩ = false) (ht : t < w.heap.size)
    (hr : readB D p = true) :
    Calls Tryf.prog 37 #[.pointer (some ⟨t, 0, none⟩)] w fun e w' => e = .returned (.agg #[.int .u8 (nextKind D p), nextText ao cap D p]) ∧ Upd t (nextPos D p) w w' := by
  by_cases he : firstAt D p = D.length
  · have e1 : nextKind D p = 0 := by unfold nextKind; rw [if_pos he]
    have e2 : nextPos D p = D.length := by unfold nextPos; rw [if_pos he, he]
    have e3 : nextText ao cap D p = .slice none 0 0 := by unfold nextText; rw [if_pos he]
    rw [e1, e2, e3]
    exact next_end t ao cap D p w hD hne hlen hp h0 h1 hf ht he
  · have hi : firstAt D p < D.length := by have := firstAt_le D p hp; omega
    obtain ⟨b, off, rfl⟩ : ∃ b off, ao = some ⟨b, off, none⟩ := by
      rcases hD with rfl | ⟨b, off, h, _⟩
      · simp at hi
      · exact ⟨b, off, h⟩
    have hne' : b ≠ t := hne b off rfl
    have hw : wholeB D (firstAt D p) = true := by unfold readB at hr; rwa [if_neg he] at hr
    cases c1 : D.getD (firstAt D p) 0 == 123 with
    | true =>
      have c := eq_of_beq c1
      exact next_of (k := 123) hi (by rw [c]; rfl) (endOf_brack (.inl c)) (next_open t b off cap D p _ w hD hne' hlen hcap hp h0 h1 hf ht rfl hi c)
    | false =>
    cases c2 : D.getD (firstAt D p) 0 == 125 with
    | true =>
      have c := eq_of_beq c2
      exact next_of (k := 125) hi (by rw [c]; rfl) (endOf_brack (.inr (.inl c))) (next_close t b off cap D p _ w hD hne' hlen hcap hp h0 h1 hf ht rfl hi c)
    | false =>
    cases c3 : D.getD (firstAt D p) 0 == 91 with
    | true =>
      have c := eq_of_beq c3
      exact next_of (k := 91) hi (by rw [c]; rfl) (endOf_brack (.inr (.inr (.inl c)))) (next_arr t b off cap D p _ w hD hne' hlen hcap hp h0 h1 hf ht rfl hi c)
    | false =>
    cases c4 : D.getD (firstAt D p) 0 == 93 with
    | true =>
      have c := eq_of_beq c4
      exact next_of (k := 93) hi (by rw [c]; rfl) (endOf_brack (.inr (.inr (.inr c)))) (next_rra t b off cap D p _ w hD hne' hlen hcap hp h0 h1 hf ht rfl hi c)
    | false =>
    cases c5 : D.getD (firstAt D p) 0 == 34 with
    | true =>
      have c := eq_of_beq c5
      have hs : (strEnd (D.drop (firstAt D p + 1))).isSome = true := by unfold wholeB at hw; rwa [if_pos c5] at hw
      obtain ⟨m, hm⟩ := Option.isSome_iff_exists.1 hs
      exact next_of (k := 34) hi (by rw [c]; rfl) (endOf_str c hm) (next_str t b off cap D p _ w hD hne' hlen hcap hp h0 h1 hf ht rfl hi c m hm)
    | false =>
    cases c6 : D.getD (firstAt D p) 0 == 116 with
    | true =>
      have c := eq_of_beq c6
      have hs : firstAt D p + 4 ≤ D.length := by
        unfold wholeB at hw
        rw [if_neg (by rw [c5]; simp), if_pos (by rw [c6]; rfl)] at hw
        simp at hw
        omega
      exact next_of (k := 116) hi (by rw [c]; rfl) (endOf_tn (.inl c)) (next_true t b off cap D p _ w hD hne' hlen hcap hp h0 h1 hf ht rfl hi c hs)
    | false =>
    cases c7 : D.getD (firstAt D p) 0 == 110 with
    | true =>
      have c := eq_of_beq c7
      have hs : firstAt D p + 4 ≤ D.length := by
        unfold wholeB at hw
        rw [if_neg (by rw [c5]; simp), if_pos (by rw [c7]; simp)] at hw
        simp at hw
        omega
      exact next_of (k := 110) hi (by rw [c]; rfl) (endOf_tn (.inr c)) (next_null t b off cap D p _ w hD hne' hlen hcap hp h0 h1 hf ht rfl hi c hs)
    | false =>
    cases c8 : D.getD (firstAt D p) 0 == 102 with
    | true =>
      have c := eq_of_beq c8
      have hs : firstAt D p + 5 ≤ D.length := by
        unfold wholeB at hw
        rw [if_neg (by rw [c5]; simp), if_neg (by rw [c6, c7]; simp), if_pos c8] at hw
        simp at hw
        omega
      exact next_of (k := 102) hi (by rw [c]; rfl) (endOf_f c) (next_false t b off cap D p _ w hD hne' hlen hcap hp h0 h1 hf ht rfl hi c hs)
    | false =>
      exact next_of (k := 48) hi (kindOf_num c1 c2 c3 c4 c5 c6 c7 c8) (endOf_num c1 c2 c3 c4 c5 c6 c7 c8) (next_num t b off cap D p _ w hD hne' hlen hcap hp h0 h1 hf ht rfl hi hby c1 c2 c3 c4 c5 c6 c7 c8)

end Go.Proofs.Qxb6001751aFmt
