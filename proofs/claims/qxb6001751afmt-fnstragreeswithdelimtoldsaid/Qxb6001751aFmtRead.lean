/-
  zzReadable: is the token at a place of a text whole?
-/
import Derived.Test.Qxb6001751aFmtHelp
namespace Go.Proofs.Qxb6001751aFmt
open Go.RowKit Tk

theorem strSome_end (D : List Int) (j : Nat) (h : D.length ≤ j) : (strEnd (D.drop j)).isSome = false := by
  rw [List.drop_eq_nil_of_le h]
  rfl

theorem strSome_quote (D : List Int) (j : Nat) (h : j < D.length) (hc : D.getD j 0 = 34) : (strEnd (D.drop j)).isSome = true := by
  rw [drop_cons D j h, hc, strEnd_quote]
  rfl

theorem strSome_esc (D : List Int) (j : Nat) (h : j < D.length) (hc : D.getD j 0 = 92) : (strEnd (D.drop j)).isSome = (strEnd (D.drop (j + 2))).isSome := by
  rw [drop_cons D j h, hc]
  rcases Nat.lt_or_ge (j + 1) D.length with h1 | h1
  · rw [drop_cons D (j + 1) h1, strEnd_esc, Option.isSome_map]
  · rw [List.drop_eq_nil_of_le h1, List.drop_eq_nil_of_le (show D.length ≤ j + 2 by omega), strEnd_esc1]
    rfl

theorem strSome_plain (D : List Int) (j : Nat) (h : j < D.length) (h1 : (D.getD j 0 == 34) = false) (h2 : (D.getD j 0 == 92) = false) : (strEnd (D.drop j)).isSome = (strEnd (D.drop (j + 1))).isSome := by
  rw [drop_cons D j h, strEnd_plain _ _ h1 h2, Option.isSome_map]

/-- The cell at a place of a text. -/
theorem Dat.at {w : World} {ao : Option Addr} {D : List Int} (hD : Dat w ao D) {i : Nat} (hi : i < D.length) :
    ∃ b off, ao = some ⟨b, off, none⟩ ∧ ∀ j, j < D.length → w.cell? ⟨b, off + j, none⟩ = some (.int .u8 (D.getD j 0)) := by
  rcases hD with rfl | ⟨b, off, h1, _, h2⟩
  · simp at hi
  · exact ⟨b, off, h1, h2⟩

theorem read_out (ao : Option Addr) (n cap : Nat) (p : Int) (w : World) (_hn : n ≤ 1048576) (h : p < 0 ∨ (n : Int) < p) :
    Calls Tryf.prog 16 #[.slice ao n cap, .int .i64 p] w fun e w' => e = .returned (.bool false) ∧ w' = w := by
  by_cases h0 : p < 0
  · go_enter Tryf.func16, Tryf.ntmps16
    go_wp2
    go_ret
    exact ⟨rfl, rfl⟩
  · have h1 : (n : Int) < p := by omega
    go_enter Tryf.func16, Tryf.ntmps16
    go_wp2
    go_ret
    exact ⟨rfl, rfl⟩

theorem read_end (ao : Option Addr) (cap : Nat) (D : List Int) (p : Nat) (w : World) (hD : Dat w ao D) (hlen : D.length ≤ 2097152) (hp : p ≤ D.length) (he : firstAt D p = D.length) :
    Calls Tryf.prog 16 #[.slice ao D.length cap, .int .i64 p] w fun e w' => e = .returned (.bool true) ∧ w' = w := by
  go_enter Tryf.func16, Tryf.ntmps16
  go_wp2_with fail
  refine (firstAt_any ao cap D p _ hD hlen hp).mono ?_
  rintro e w' ⟨rfl, hw⟩
  have hw2 := hw.symm
  clear hw
  subst hw2
  rw [he]
  clear he
  go_wp2
  go_ret
  exact ⟨rfl, rfl⟩

set_option maxHeartbeats 400000 in
theorem read_str (ao : Option Addr) (cap : Nat) (D : List Int) (p i : Nat) (w : World) (hD : Dat w ao D) (hlen : D.length ≤ 2097152) (hp : p ≤ D.length) (he : firstAt D p = i) (hi : i < D.length) (hc : D.getD i 0 = 34) :
    Calls Tryf.prog 16 #[.slice ao D.length cap, .int .i64 p] w fun e w' => e = .returned (.bool (strEnd (D.drop (i + 1))).isSome) ∧ w' = w := by
  go_enter Tryf.func16, Tryf.ntmps16
  go_wp2_with fail
  refine (firstAt_any ao cap D p _ hD hlen hp).mono ?_
  rintro e w' ⟨rfl, hw⟩
  have hw2 := hw.symm
  clear hw
  subst hw2
  obtain ⟨b, off, rfl, hcell⟩ := hD.at hi
  have hci := hcell i hi
  rw [hc] at hci
  rw [he]
  have HCL : Hid (∀ j, j < D.length → w.cell? ⟨b, off + j, none⟩ = some (.int .u8 (D.getD j 0))) := hcell
  have hq : ((i : Int) == (D.length : Int)) = false := beq_eq_false_iff_ne.2 (by omega)
  clear he hD hc hcell
  go_wp2
  go_loop [6] (fun v => ∃ j : Nat, j ≤ D.length + 1 ∧ v = .int .i64 j ∧ (strEnd (D.drop j)).isSome = (strEnd (D.drop (i + 1))).isSome) (fun v => D.length + 1 - (intOf v).toNat)
  case atStart => exact ⟨i + 1, by omega, by go_num, rfl⟩
  case round =>
    obtain ⟨j, hj, rfl, hst⟩ := hrel
    have HS : Hid ((strEnd (D.drop j)).isSome = (strEnd (D.drop (i + 1))).isSome) := hst
    clear hst
    by_cases hlt : j < D.length
    · have hcj := HCL.out j hlt
      obtain ⟨c, hcd⟩ : ∃ c, c = D.getD j 0 := ⟨_, rfl⟩
      rw [← hcd] at hcj
      have HC : Hid (c = D.getD j 0) := hcd
      clear hcd
      cases h1 : c == 34 with
      | true =>
        have H1 : Hid (c = 34) := eq_of_beq h1
        go_wp2
        go_ret
        exact ⟨by rw [← HS.out, strSome_quote D j hlt (HC.out.symm.trans H1.out)]; rfl, rfl⟩
      | false =>
        have H1 : Hid ((c == 34) = false) := h1
        cases h2 : c == 92 with
        | true =>
          have H2 : Hid (c = 92) := eq_of_beq h2
          go_wp2
          go_round
          case rel => exact ⟨j + 2, by omega, by go_num, (strSome_esc D j hlt (HC.out.symm.trans H2.out)).symm.trans HS.out⟩
          case measure => simp [intOf]; omega
        | false =>
          have H2 : Hid ((c == 92) = false) := h2
          go_wp2
          go_round
          case rel => exact ⟨j + 1, by omega, by go_num, (strSome_plain D j hlt (by rw [← HC.out]; exact H1.out) (by rw [← HC.out]; exact H2.out)).symm.trans HS.out⟩
          case measure => simp [intOf]; omega
    · go_wp2
      go_ret
      exact ⟨by rw [← HS.out, strSome_end D j (by omega)]; rfl, rfl⟩

theorem read_four (c : Int) (hc4 : c = 116 ∨ c = 110) (ao : Option Addr) (cap : Nat) (D : List Int) (p i : Nat) (w : World) (hD : Dat w ao D) (hlen : D.length ≤ 2097152) (hp : p ≤ D.length) (he : firstAt D p = i) (hi : i < D.length) (hc : D.getD i 0 = c) :
    Calls Tryf.prog 16 #[.slice ao D.length cap, .int .i64 p] w fun e w' => e = .returned (.bool (decide (4 ≤ D.length - i))) ∧ w' = w := by
  rcases hc4 with rfl | rfl
  all_goals
    go_enter Tryf.func16, Tryf.ntmps16
    go_wp2_with fail
    refine (firstAt_any ao cap D p _ hD hlen hp).mono ?_
    rintro e w' ⟨rfl, hw⟩
    have hw2 := hw.symm
    clear hw
    subst hw2
    obtain ⟨b, off, rfl, hcell⟩ := hD.at hi
    have hci := hcell i hi
    rw [hc] at hci
    rw [he]
    clear he hD hc hcell
    have hdec : decide ((4 : Int) ≤ (D.length : Int) - (i : Int)) = decide (4 ≤ D.length - i) := by rw [Bool.eq_iff_iff]; simp; omega
    have HD : Hid (decide ((4 : Int) ≤ (D.length : Int) - (i : Int)) = decide (4 ≤ D.length - i)) := hdec
    clear hdec
    go_wp2
    go_ret
    exact ⟨by rw [← HD.out]; rfl, rfl⟩

theorem read_five (ao : Option Addr) (cap : Nat) (D : List Int) (p i : Nat) (w : World) (hD : Dat w ao D) (hlen : D.length ≤ 2097152) (hp : p ≤ D.length) (he : firstAt D p = i) (hi : i < D.length) (hc : D.getD i 0 = 102) :
    Calls Tryf.prog 16 #[.slice ao D.length cap, .int .i64 p] w fun e w' => e = .returned (.bool (decide (5 ≤ D.length - i))) ∧ w' = w := by
  go_enter Tryf.func16, Tryf.ntmps16
  go_wp2_with fail
  refine (firstAt_any ao cap D p _ hD hlen hp).mono ?_
  rintro e w' ⟨rfl, hw⟩
  have hw2 := hw.symm
  clear hw
  subst hw2
  obtain ⟨b, off, rfl, hcell⟩ := hD.at hi
  have hci := hcell i hi
  rw [hc] at hci
  rw [he]
  clear he hD hc hcell
  have HD : Hid (decide ((5 : Int) ≤ (D.length : Int) - (i : Int)) = decide (5 ≤ D.length - i)) := show _ = _ by rw [Bool.eq_iff_iff]; simp; omega
  go_wp2
  go_ret
  exact ⟨by rw [← HD.out]; rfl, rfl⟩

theorem read_other (ao : Option Addr) (cap : Nat) (D : List Int) (p i : Nat) (w : World) (hD : Dat w ao D) (hlen : D.length ≤ 2097152) (hp : p ≤ D.length) (he : firstAt D p = i) (hi : i < D.length)
    (n1 : (D.getD i 0 == 34) = false) (n2 : (D.getD i 0 == 116) = false) (n3 : (D.getD i 0 == 110) = false) (n4 : (D.getD i 0 == 102) = false) :
    Calls Tryf.prog 16 #[.slice ao D.length cap, .int .i64 p] w fun e w' => e = .returned (.bool true) ∧ w' = w := by
  go_enter Tryf.func16, Tryf.ntmps16
  go_wp2_with fail
  refine (firstAt_any ao cap D p _ hD hlen hp).mono ?_
  rintro e w' ⟨rfl, hw⟩
  have hw2 := hw.symm
  clear hw
  subst hw2
  obtain ⟨b, off, rfl, hcell⟩ := hD.at hi
  have hci := hcell i hi
  rw [he]
  generalize D.getD i 0 = c at *
  clear he hD hcell
  go_wp2
  go_ret
  exact ⟨rfl, rfl⟩

theorem read_any (ao : Option Addr) (cap : Nat) (D : List Int) (p : Nat) (w : World) (hD : Dat w ao D) (hlen : D.length ≤ 2097152) (hp : p ≤ D.length) :
    Calls Tryf.prog 16 #[.slice ao D.length cap, .int .i64 p] w fun e w' => e = .returned (.bool (readB D p)) ∧ w' = w := by
  by_cases he : firstAt D p = D.length
  · have e1 : readB D p = true := by unfold readB; rw [if_pos he]
    rw [e1]
    exact read_end ao cap D p w hD hlen hp he
  · have hi : firstAt D p < D.length := by have := firstAt_le D p hp; omega
    have e1 : readB D p = wholeB D (firstAt D p) := by unfold readB; rw [if_neg he]
    rw [e1]
    cases c1 : D.getD (firstAt D p) 0 == 34 with
    | true =>
      have e2 : wholeB D (firstAt D p) = (strEnd (D.drop (firstAt D p + 1))).isSome := by unfold wholeB; rw [if_pos c1]
      rw [e2]
      exact read_str ao cap D p _ w hD hlen hp rfl hi (eq_of_beq c1)
    | false =>
    cases c2 : D.getD (firstAt D p) 0 == 116 with
    | true =>
      have e2 : wholeB D (firstAt D p) = decide (4 ≤ D.length - firstAt D p) := by unfold wholeB; rw [if_neg (by rw [c1]; simp), if_pos (by rw [c2]; rfl)]
      rw [e2]
      exact read_four 116 (.inl rfl) ao cap D p _ w hD hlen hp rfl hi (eq_of_beq c2)
    | false =>
    cases c3 : D.getD (firstAt D p) 0 == 110 with
    | true =>
      have e2 : wholeB D (firstAt D p) = decide (4 ≤ D.length - firstAt D p) := by unfold wholeB; rw [if_neg (by rw [c1]; simp), if_pos (by rw [c3]; simp)]
      rw [e2]
      exact read_four 110 (.inr rfl) ao cap D p _ w hD hlen hp rfl hi (eq_of_beq c3)
    | false =>
    cases c4 : D.getD (firstAt D p) 0 == 102 with
    | true =>
      have e2 : wholeB D (firstAt D p) = decide (5 ≤ D.length - firstAt D p) := by unfold wholeB; rw [if_neg (by rw [c1]; simp), if_neg (by rw [c2, c3]; simp), if_pos c4]
      rw [e2]
      exact read_five ao cap D p _ w hD hlen hp rfl hi (eq_of_beq c4)
    | false =>
      have e2 : wholeB D (firstAt D p) = true := by unfold wholeB; rw [if_neg (by rw [c1]; simp), if_neg (by rw [c2, c3]; simp), if_neg (by rw [c4]; simp)]
      rw [e2]
      exact read_other ao cap D p _ w hD hlen hp rfl hi c1 c2 c3 c4

end Go.Proofs.Qxb6001751aFmt
