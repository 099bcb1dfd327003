/-
  The specials, the label's characters, atext, and the law herself.
-/
import Derived.Test.Qxb6613342aLaw
namespace Go.Proofs.Qxb6613342a
open Go.RowKit

theorem special (r : Int) (w : World) :
    Calls Try.prog 13 #[.int .i32 r] w fun e w' => e = .returned (.bool (specB r)) ∧ w' = w := by
  by_cases hm : r = 40 ∨ r = 41 ∨ r = 60 ∨ r = 62 ∨ r = 91 ∨ r = 93 ∨ r = 58 ∨ r = 59 ∨ r = 64 ∨ r = 92 ∨ r = 44 ∨ r = 46 ∨ r = 34
  · rcases hm with rfl | rfl | rfl | rfl | rfl | rfl | rfl | rfl | rfl | rfl | rfl | rfl | rfl
    all_goals
      show Calls Try.prog 13 #[_] w fun e w' => e = .returned (.bool true) ∧ w' = w
      go_enter Try.func13, Try.ntmps13
      go_wp2
      go_ret
      exact ⟨rfl, rfl⟩
  · have hs : specB r = false := by
      simp only [specB, List.contains_eq_mem, decide_eq_false_iff_not, List.mem_cons, List.not_mem_nil, or_false]
      exact hm
    rw [hs]
    clear hs
    simp only [not_or] at hm
    obtain ⟨a1, a2, a3, a4, a5, a6, a7, a8, a9, a10, a11, a12, a13⟩ := hm
    go_enter Try.func13, Try.ntmps13
    go_wp2
    go_ret
    exact ⟨rfl, rfl⟩

def notLabelB (r : Int) : Bool := !alnumB r && (r != 45)

theorem isNotLabel (r : Int) (w : World) :
    Calls Try.prog 16 #[.int .i32 r] w fun e w' => e = .returned (.bool (notLabelB r)) ∧ w' = w := by
  cases ha : alnumB r with
  | true =>
    have e : notLabelB r = false := by simp [notLabelB, ha]
    rw [e]
    go_enter Try.func16, Try.ntmps16
    go_wp2_with (go_at_call 19; refine (isAlnum _ _).mono ?_; rintro e w' ⟨rfl, hw⟩; have hw2 := hw.symm; clear hw; subst hw2; rw [ha])
    go_ret
    exact ⟨rfl, rfl⟩
  | false =>
    by_cases h : r = 45
    · subst h
      have e : notLabelB 45 = false := rfl
      rw [e]
      go_enter Try.func16, Try.ntmps16
      go_wp2_with (go_at_call 19; refine (isAlnum _ _).mono ?_; rintro e w' ⟨rfl, hw⟩; have hw2 := hw.symm; clear hw; subst hw2; rw [ha])
      go_ret
      exact ⟨rfl, rfl⟩
    · have e : notLabelB r = true := by simp [notLabelB, ha, h]
      have hne : (r != 45) = true := by simp [h]
      rw [e]
      go_enter Try.func16, Try.ntmps16
      go_wp2_with (go_at_call 19; refine (isAlnum _ _).mono ?_; rintro e w' ⟨rfl, hw⟩; have hw2 := hw.symm; clear hw; subst hw2; rw [ha])
      go_ret
      exact ⟨rfl, rfl⟩

theorem zzNotLabel (r : Int) (w : World) :
    Calls Try.prog 12 #[.int .i32 r] w fun e w' => e = .returned (.bool (notLabelB r)) ∧ w' = w := by
  go_enter Try.func12, Try.ntmps12
  go_wp2_with (go_at_call 16; refine (isNotLabel _ _).mono ?_; rintro e w' ⟨rfl, hw⟩; have hw2 := hw.symm; clear hw; subst hw2)
  go_ret
  exact ⟨rfl, rfl⟩

/-- Is r one of T's bytes? -/
def inT (r : Int) : Bool := decide (0 ≤ r) && decide (r < 128) && decide (0 ≤ Lib.indexByte T.data.toList r.toNat.toUInt8)
def notAtextB (r : Int) : Bool := !alnumB r && !inT r

theorem containsT (r : Int) (w : World) :
    Calls Try.prog 20 #[.string T, .int .i32 r] w fun e w' => e = .returned (.bool (inT r)) ∧ Below w.heap.size w w' := by
  by_cases h : 0 ≤ r ∧ r < 128
  · have e : inT r = decide (0 ≤ Lib.indexByte T.data.toList r.toNat.toUInt8) := by simp [inT, h.1, h.2]
    rw [e]
    refine (Try.strings_ContainsRune_ascii T r w h.1 h.2).mono ?_
    rintro _ _ ⟨rfl, rfl⟩
    exact ⟨rfl, Below.refl _ _⟩
  · have e : inT r = false := by
      simp only [inT, Bool.and_eq_false_iff, decide_eq_false_iff_not]
      omega
    rw [e]
    exact containsRune_out T r w T_asc (by rw [T_size]; omega) (by rw [T_size]; omega) h

theorem isNotAtext (r : Int) (w : World) :
    Calls Try.prog 17 #[.int .i32 r] w fun e w' => e = .returned (.bool (notAtextB r)) ∧ Below w.heap.size w w' := by
  have hc := containsT r
  cases ha : alnumB r with
  | true =>
    have e : notAtextB r = false := by simp [notAtextB, ha]
    rw [e]
    go_enter Try.func17, Try.ntmps17
    go_wp2_with (go_at_call 19; refine (isAlnum _ _).mono ?_; rintro e w' ⟨rfl, hw⟩; have hw2 := hw.symm; clear hw; subst hw2; rw [ha])
    go_ret
    exact ⟨rfl, Below.refl _ _⟩
  | false =>
    have e : notAtextB r = !inT r := by simp [notAtextB, ha]
    rw [e]
    clear e
    generalize inT r = b at *
    go_enter Try.func17, Try.ntmps17
    go_wp2_with (first
      | (go_at_call 19; refine (isAlnum _ _).mono ?_; rintro e w' ⟨rfl, hw⟩; have hw2 := hw.symm; clear hw; subst hw2; rw [ha])
      | (go_at_call 20; refine (hc _).mono ?_; rintro e w' ⟨rfl, hB⟩))
    go_ret
    exact ⟨rfl, hB⟩

theorem zzNotAtext (r : Int) (w : World) :
    Calls Try.prog 14 #[.int .i32 r] w fun e w' => e = .returned (.bool (notAtextB r)) ∧ Below w.heap.size w w' := by
  go_enter Try.func14, Try.ntmps14
  go_wp2_with (go_at_call 17; refine (isNotAtext _ _).mono ?_; rintro e w' ⟨rfl, hB⟩)
  go_ret
  exact ⟨rfl, hB⟩
end Go.Proofs.Qxb6613342a
