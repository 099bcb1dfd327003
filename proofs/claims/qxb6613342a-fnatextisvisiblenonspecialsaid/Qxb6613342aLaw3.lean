/-
  The plain law, and the law's own walk.
-/
import Derived.Test.Qxb6613342aLaw2
namespace Go.Proofs.Qxb6613342a
open Go.RowKit

def wantB (r : Int) : Bool := decide (r < 33) || (decide (126 < r) || specB r)

theorem plain_in : ∀ k : Fin 128, notAtextB (k.1 : Int) = wantB (k.1 : Int) ∧ (notAtextB (k.1 : Int) = true → notLabelB (k.1 : Int) = true) := by
  decide +kernel

theorem plain (r : Int) : notAtextB r = wantB r ∧ (notAtextB r = true → notLabelB r = true) := by
  by_cases h : 0 ≤ r ∧ r < 128
  · obtain ⟨k, rfl⟩ := Int.eq_ofNat_of_zero_le h.1
    exact plain_in ⟨k, by omega⟩
  · have ha : alnumB r = false := by
      simp only [alnumB, Bool.or_eq_false_iff, Bool.and_eq_false_iff, decide_eq_false_iff_not]
      omega
    have hi : inT r = false := by
      simp only [inT, Bool.and_eq_false_iff, decide_eq_false_iff_not]
      omega
    have hn : notAtextB r = true := by simp [notAtextB, ha, hi]
    have hw : wantB r = true := by
      simp only [wantB, Bool.or_eq_true, decide_eq_true_eq]
      omega
    have h45 : r ≠ 45 := by omega
    exact ⟨by rw [hn, hw], fun _ => by simp [notLabelB, ha, h45]⟩

theorem law (r : Int) (w : World) :
    Calls Try.prog 6 #[.int .i32 r] w fun e w' => e = .returned (.bool true) ∧ Below w.heap.size w w' := by
  obtain ⟨p1, p2⟩ := plain r
  have hsp : r < 33 ∨ 126 < r ∨ (33 ≤ r ∧ r ≤ 126) := by omega
  rcases hsp with h1 | h1 | ⟨h1, h2⟩
  · have hw : wantB r = true := by simp [wantB, h1]
    have hn : notAtextB r = true := by rw [p1, hw]
    have hl := p2 hn
    clear p1 p2
    go_enter Try.func6, Try.ntmps6
    go_wp2_with (first
      | (go_at_call 14; refine (zzNotAtext _ _).mono ?_; rintro e w1 ⟨rfl, hB⟩; rw [hn])
      | (go_at_call 12; refine (zzNotLabel _ _).mono ?_; rintro e w2 ⟨rfl, hw⟩; have hw2 := hw.symm; clear hw; subst hw2; rw [hl]))
    go_ret
    exact ⟨rfl, hB⟩
  · have hw : wantB r = true := by simp [wantB, h1]
    have hn : notAtextB r = true := by rw [p1, hw]
    have hl := p2 hn
    have h3 : ¬ r < 33 := by omega
    clear p1 p2
    go_enter Try.func6, Try.ntmps6
    go_wp2_with (first
      | (go_at_call 14; refine (zzNotAtext _ _).mono ?_; rintro e w1 ⟨rfl, hB⟩; rw [hn])
      | (go_at_call 12; refine (zzNotLabel _ _).mono ?_; rintro e w2 ⟨rfl, hw⟩; have hw2 := hw.symm; clear hw; subst hw2; rw [hl]))
    go_ret
    exact ⟨rfl, hB⟩
  · have h3 : ¬ r < 33 := by omega
    have h4 : ¬ 126 < r := by omega
    have hw : wantB r = specB r := by simp [wantB, h3, h4]
    cases hsb : specB r with
    | true =>
      have hn : notAtextB r = true := by rw [p1, hw, hsb]
      have hl := p2 hn
      clear p1 p2 hw
      go_enter Try.func6, Try.ntmps6
      go_wp2_with (first
        | (go_at_call 13; refine (special _ _).mono ?_; rintro e w2 ⟨rfl, hw⟩; have hw2 := hw.symm; clear hw; subst hw2; rw [hsb])
        | (go_at_call 14; refine (zzNotAtext _ _).mono ?_; rintro e w1 ⟨rfl, hB⟩; rw [hn])
        | (go_at_call 12; refine (zzNotLabel _ _).mono ?_; rintro e w2 ⟨rfl, hw⟩; have hw2 := hw.symm; clear hw; subst hw2; rw [hl]))
      go_ret
      exact ⟨rfl, hB⟩
    | false =>
      have hn : notAtextB r = false := by rw [p1, hw, hsb]
      clear p1 p2 hw
      go_enter Try.func6, Try.ntmps6
      go_wp2_with (first
        | (go_at_call 13; refine (special _ _).mono ?_; rintro e w2 ⟨rfl, hw⟩; have hw2 := hw.symm; clear hw; subst hw2; rw [hsb])
        | (go_at_call 14; refine (zzNotAtext _ _).mono ?_; rintro e w1 ⟨rfl, hB⟩; rw [hn]))
      go_ret
      exact ⟨rfl, hB⟩
end Go.Proofs.Qxb6613342a
