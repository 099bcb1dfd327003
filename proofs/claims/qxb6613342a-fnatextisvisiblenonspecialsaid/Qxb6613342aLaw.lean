/-
  The plain law and the walks of the project's functions: isAlnum, rfc5322Special, isNotLabelChar, isNotAtext, and the law herself.
-/
import Derived.Test.Qxb6613342aFar
import Derived.ChangeOld
import Derived.Below
namespace Go.Proofs.Qxb6613342a
open Go.RowKit

/-- A letter or a digit of ASCII. -/
def alnumB (r : Int) : Bool := (decide (97 ≤ r) && decide (r ≤ 122)) || (decide (65 ≤ r) && decide (r ≤ 90)) || (decide (48 ≤ r) && decide (r ≤ 57))

/-- One of the specials. -/
def specB (r : Int) : Bool := [40, 41, 60, 62, 91, 93, 58, 59, 64, 92, 44, 46, 34].contains r

/-- The other characters of atext. -/
def T : ByteArray := ⟨#[33, 35, 36, 37, 38, 39, 42, 43, 45, 47, 61, 63, 94, 95, 96, 123, 124, 125, 126]⟩

theorem T_size : T.size = 19 := rfl
theorem T_asc : Asc T := by
  intro i h
  have h2 : i < 19 := h
  have : ∀ j : Fin 19, (T[j.1]'(by have := j.2; rw [T_size]; exact this)).toNat < 128 := by decide
  exact this ⟨i, h2⟩

theorem isAlnum (r : Int) (w : World) :
    Calls Try.prog 19 #[.int .i32 r] w fun e w' => e = .returned (.bool (alnumB r)) ∧ w' = w := by
  by_cases h1 : 97 ≤ r <;> by_cases h2 : r ≤ 122 <;> by_cases h3 : 65 ≤ r <;> by_cases h4 : r ≤ 90 <;> by_cases h5 : 48 ≤ r <;> by_cases h6 : r ≤ 57 <;> try (exfalso; omega)
  all_goals
    have e : alnumB r = alnumB r := rfl
    conv at e => rhs; simp only [alnumB, h1, h2, h3, h4, h5, h6, decide_true, decide_false, Bool.and_true, Bool.and_false, Bool.or_false, Bool.false_or, Bool.or_true]
    rw [e]
    clear e
    go_enter Try.func19, Try.ntmps19
    go_wp2
    go_ret
    exact ⟨rfl, rfl⟩

theorem indexRune_out (s : ByteArray) (r : Int) (w : World) (hs : Asc s) (hlen : s.size ≤ 1048576) (h4 : 4 ≤ s.size) (hr : ¬ (0 ≤ r ∧ r < 128)) :
    Calls Try.prog 22 #[.string s, .int .i32 r] w fun e w' => e = .returned (.int .i64 (-1)) ∧ Below w.heap.size w w' := by
  cases hv : Lib.validRune r with
  | false => exact indexRune_bad s r w hv
  | true =>
    by_cases he : r = 65533
    · subst he
      exact indexRune_error s w hs
    · refine indexRune_far s r w hs hlen h4 hv ?_ (beq_eq_false_iff_ne.2 he)
      simp [Lib.validRune] at hv
      omega

theorem containsRune_out (s : ByteArray) (r : Int) (w : World) (hs : Asc s) (hlen : s.size ≤ 1048576) (h4 : 4 ≤ s.size) (hr : ¬ (0 ≤ r ∧ r < 128)) :
    Calls Try.prog 20 #[.string s, .int .i32 r] w fun e w' => e = .returned (.bool false) ∧ Below w.heap.size w w' := by
  go_enter Try.func20, Try.ntmps20
  go_wp2_with (go_at_call 22; refine (indexRune_out s r _ hs hlen h4 hr).mono ?_; rintro e w' ⟨rfl, hB⟩)
  go_ret
  exact ⟨rfl, hB⟩
end Go.Proofs.Qxb6613342a
