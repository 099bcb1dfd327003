import Derived.Test.Qxb6614787aMost
namespace Go.Proofs.Qxb6614787a
open Go.RowKit

theorem cntV_end (s : ByteArray) : cntV s s.size = 0 := by
  rw [cntV_eq, List.drop_eq_nil_of_le (by rw [Array.length_toList]; exact Nat.le_refl _)]
  rfl

theorem cntV_step (s : ByteArray) (p : Nat) (h : p < s.size) : cntV s p = cntV s (p + 1) + if ((s[p].toNat : Int) == 10) = true then 1 else 0 := by
  have hl : p < s.data.toList.length := by rw [Array.length_toList]; exact h
  rw [cntV_eq, cntV_eq, List.drop_eq_getElem_cons hl, List.count_cons]
  congr 1
  have e : (s.data.toList[p] == (10 : UInt8)) = ((s[p].toNat : Int) == 10) := by
    have e1 : s.data.toList[p] = s[p] := by rw [Array.getElem_toList]; rfl
    rw [e1, Bool.eq_iff_iff, beq_iff_eq, beq_iff_eq, ← UInt8.toNat_inj]
    show s[p].toNat = 10 ↔ _
    omega
  rw [e]

theorem guard5 (s : ByteArray) (p : Int) (w : World) (hs : s.size ≤ maxLen) :
    Calls Try.prog 5 #[.string s, .int .i64 p] w fun e w' => e = .returned (.bool (decide (s.size ≤ 1048576))) ∧ w' = w := by
  unfold maxLen at hs
  by_cases h : s.size ≤ 1048576
  · have hd : decide (s.size ≤ 1048576) = true := by simpa using h
    rw [hd]
    go_enter Try.func5, Try.ntmps5
    go_wp2
    go_ret
    exact ⟨rfl, rfl⟩
  · have hd : decide (s.size ≤ 1048576) = false := by simpa using h
    rw [hd]
    go_enter Try.func5, Try.ntmps5
    go_wp2
    go_ret
    exact ⟨rfl, rfl⟩

theorem law3_long (s : ByteArray) (p : Int) (w : World) (hs : s.size ≤ maxLen) (h : ¬ s.size ≤ 1048576) :
    Calls Try.prog 3 #[.string s, .int .i64 p] w fun e w' => e = .returned (.bool true) ∧ Grown w w' := by
  have hd : decide (s.size ≤ 1048576) = false := by simpa using h
  go_enter Try.func3, Try.ntmps3
  go_wp2_with (go_at_call 5; refine (guard5 _ _ _ hs).mono ?_; rintro e w' ⟨rfl, rfl⟩)
  go_ret
  exact ⟨rfl, Grown.refl _⟩

theorem law3_out (s : ByteArray) (p : Int) (w : World) (hs : s.size ≤ maxLen) (h : s.size ≤ 1048576) (hp : p < 0 ∨ (s.size : Int) < p) :
    Calls Try.prog 3 #[.string s, .int .i64 p] w fun e w' => e = .returned (.bool true) ∧ Grown w w' := by
  have hd : decide (s.size ≤ 1048576) = true := by simpa using h
  by_cases h0 : p < 0
  · go_enter Try.func3, Try.ntmps3
    go_wp2_with (go_at_call 5; refine (guard5 _ _ _ hs).mono ?_; rintro e w' ⟨rfl, rfl⟩)
    go_ret
    exact ⟨rfl, Grown.refl _⟩
  · have h1 : (s.size : Int) < p := by omega
    go_enter Try.func3, Try.ntmps3
    go_wp2_with (go_at_call 5; refine (guard5 _ _ _ hs).mono ?_; rintro e w' ⟨rfl, rfl⟩)
    go_ret
    exact ⟨rfl, Grown.refl _⟩

set_option maxHeartbeats 400000 in
theorem law3_end (s : ByteArray) (w : World) (hs : s.size ≤ maxLen) (h : s.size ≤ 1048576) :
    Calls Try.prog 3 #[.string s, .int .i64 s.size] w fun e w' => e = .returned (.bool true) ∧ Grown w w' := by
  have hd : decide (s.size ≤ 1048576) = true := by simpa using h
  go_enter Try.func3, Try.ntmps3
  go_wp2_with (go_at_call 5; refine (guard5 _ _ _ hs).mono ?_; rintro e w' ⟨rfl, hw⟩; have hw2 := hw.symm; clear hw; subst hw2)
  refine (zzmost _ _ _ (by omega) (by omega) (by omega)).mono ?_
  rintro e w1 ⟨rfl, hg1⟩
  rw [Int.toNat_natCast, cntV_end]
  have HG : Hid (Grown w w1) := hg1
  clear hg1
  go_wp2_with fail
  refine (zzmost _ _ _ (by omega) (by omega) (by omega)).mono ?_
  rintro e w2 ⟨rfl, hg2⟩
  rw [Int.toNat_natCast, cntV_end]
  have HG2 : Hid (Grown w w2) := grown_trans HG.out hg2
  clear hg2
  go_wp2
  go_ret
  exact ⟨rfl, HG2.out⟩

set_option maxHeartbeats 400000 in
theorem law3_mid (s : ByteArray) (p : Nat) (w : World) (hs : s.size ≤ maxLen) (h : s.size ≤ 1048576) (hp : p < s.size) :
    Calls Try.prog 3 #[.string s, .int .i64 p] w fun e w' => e = .returned (.bool true) ∧ Grown w w' := by
  have hd : decide (s.size ≤ 1048576) = true := by simpa using h
  have HST : Hid (cntV s p = cntV s (p + 1) + if ((s[p].toNat : Int) == 10) = true then 1 else 0) := cntV_step s p hp
  have hne : ((p : Int) == (s.size : Int)) = false := beq_eq_false_iff_ne.2 (by omega)
  go_enter Try.func3, Try.ntmps3
  go_wp2_with (go_at_call 5; refine (guard5 _ _ _ hs).mono ?_; rintro e w' ⟨rfl, hw⟩; have hw2 := hw.symm; clear hw; subst hw2)
  refine (zzmost _ _ _ (by omega) (by omega) (by omega)).mono ?_
  rintro e w1 ⟨rfl, hg1⟩
  rw [Int.toNat_natCast, cntV_end]
  have HG : Hid (Grown w w1) := hg1
  clear hg1
  go_wp2_with fail
  refine (zzmost _ _ _ (by omega) (by omega) (by omega)).mono ?_
  rintro e w2 ⟨rfl, hg2⟩
  rw [Int.toNat_natCast, HST.out]
  have HG2 : Hid (Grown w w2) := grown_trans HG.out hg2
  clear hg2
  have hcb := cntV_le s (p + 1)
  cases hten : ((s[p].toNat : Int) == 10) with
  | true =>
    rw [if_pos rfl]
    go_wp2_with fail
    refine (zzmost _ _ _ (by omega) (by omega) (by omega)).mono ?_
    rintro e w3 ⟨rfl, hg3⟩
    rw [show ((p : Int) + 1).toNat = p + 1 from by omega]
    have HG3 : Hid (Grown w w3) := grown_trans HG2.out hg3
    clear hg3
    go_wp2
    go_ret
    exact ⟨by simp, HG3.out⟩
  | false =>
    rw [if_neg (by simp)]
    go_wp2_with fail
    refine (zzmost _ _ _ (by omega) (by omega) (by omega)).mono ?_
    rintro e w3 ⟨rfl, hg3⟩
    rw [show ((p : Int) + 1).toNat = p + 1 from by omega]
    have HG3 : Hid (Grown w w3) := grown_trans HG2.out hg3
    clear hg3
    go_wp2
    go_ret
    exact ⟨by simp, HG3.out⟩
end Go.Proofs.Qxb6614787a
