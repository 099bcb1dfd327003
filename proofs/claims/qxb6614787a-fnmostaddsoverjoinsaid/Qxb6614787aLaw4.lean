import Derived.Test.Qxb6614787aLaw3
namespace Go.Proofs.Qxb6614787a
open Go.RowKit

theorem append_list (a b : ByteArray) : (a ++ b).data.toList = a.data.toList ++ b.data.toList := by
  rw [ByteArray.data_append, Array.toList_append]

theorem cntV_join (a b : ByteArray) : cntV (a ++ b) 0 = cntV a 0 + cntV b 0 := by
  rw [cntV_eq, cntV_eq, cntV_eq, append_list]
  simp [List.count_append]

theorem cntV_rest (a b : ByteArray) : cntV (a ++ b) a.size = cntV b 0 := by
  rw [cntV_eq, cntV_eq, append_list]
  have h : a.size = a.data.toList.length := by rw [Array.length_toList]; rfl
  rw [h, List.drop_left]
  simp

theorem guard7_yes (a b : ByteArray) (w : World) (h : a.size + b.size ≤ 1048576) :
    Calls Try.prog 7 #[.string a, .string b] w fun e w' => e = .returned (.bool true) ∧ w' = w := by
  go_enter Try.func7, Try.ntmps7
  go_wp2
  go_ret
  exact ⟨rfl, rfl⟩

theorem guard7_no (a b : ByteArray) (w : World) (ha : a.size ≤ maxLen) (hb : b.size ≤ maxLen) (h : ¬ a.size + b.size ≤ 1048576) :
    Calls Try.prog 7 #[.string a, .string b] w fun e w' => e = .returned (.bool false) ∧ w' = w := by
  unfold maxLen at ha hb
  by_cases h1 : 1048576 < a.size
  · go_enter Try.func7, Try.ntmps7
    go_wp2
    go_ret
    exact ⟨rfl, rfl⟩
  · by_cases h2 : 1048576 < b.size
    · go_enter Try.func7, Try.ntmps7
      go_wp2
      go_ret
      exact ⟨rfl, rfl⟩
    · go_enter Try.func7, Try.ntmps7
      go_wp2
      go_ret
      exact ⟨rfl, rfl⟩

theorem law4_long (a b : ByteArray) (w : World) (ha : a.size ≤ maxLen) (hb : b.size ≤ maxLen) (h : ¬ a.size + b.size ≤ 1048576) :
    Calls Try.prog 4 #[.string a, .string b] w fun e w' => e = .returned (.bool true) ∧ Grown w w' := by
  go_enter Try.func4, Try.ntmps4
  go_wp2_with (go_at_call 7; refine (guard7_no _ _ _ ha hb h).mono ?_; rintro e w' ⟨rfl, rfl⟩)
  go_ret
  exact ⟨rfl, Grown.refl _⟩

set_option maxHeartbeats 400000 in
theorem law4_main (a b : ByteArray) (w : World) (h : a.size + b.size ≤ 1048576) :
    Calls Try.prog 4 #[.string a, .string b] w fun e w' => e = .returned (.bool true) ∧ Grown w w' := by
  go_enter Try.func4, Try.ntmps4
  go_wp2_with (go_at_call 7; refine (guard7_yes _ _ _ h).mono ?_; rintro e w' ⟨rfl, hw⟩; have hw2 := hw.symm; clear hw; subst hw2)
  have hab : (a ++ b).size = a.size + b.size := ByteArray.size_append
  have ha := cntV_le a 0
  have hb := cntV_le b 0
  refine (zzmost _ _ _ (by omega) (by omega) (by omega)).mono ?_
  rintro e w1 ⟨rfl, hg1⟩
  rw [show (0 : Int).toNat = 0 from rfl, cntV_join]
  have HG : Hid (Grown w w1) := hg1
  have HAB : Hid ((a ++ b).size = a.size + b.size) := hab
  clear hg1 hab
  go_wp2_with fail
  refine (zzmost _ _ _ (by omega) (by omega) (by omega)).mono ?_
  rintro e w2 ⟨rfl, hg2⟩
  rw [show (0 : Int).toNat = 0 from rfl]
  have HG2 : Hid (Grown w w2) := grown_trans HG.out hg2
  clear hg2
  go_wp2_with fail
  refine (zzmost _ _ _ (by omega) (by omega) (by omega)).mono ?_
  rintro e w3 ⟨rfl, hg3⟩
  rw [show (0 : Int).toNat = 0 from rfl]
  have HG3 : Hid (Grown w w3) := grown_trans HG2.out hg3
  clear hg3
  have HR : Hid (cntV (a ++ b) a.size = cntV b 0) := cntV_rest a b
  generalize cntV a 0 = A at *
  generalize cntV b 0 = B at *
  have e1 : (((A + B : Nat) : Int) + 1 == (A : Int) + 1 + ((B : Int) + 1) - 1) = true := beq_iff_eq.2 (by omega)
  have e2 : ((A : Int) + (B : Int) + 1 == (A : Int) + 1 + ((B : Int) + 1) - 1) = true := beq_iff_eq.2 (by omega)
  go_wp2_with fail
  refine (zzmost _ _ _ (by rw [HAB.out]; omega) (by omega) (by rw [HAB.out]; omega)).mono ?_
  rintro e w4 ⟨rfl, hg4⟩
  rw [Int.toNat_natCast, HR.out]
  have HG4 : Hid (Grown w w4) := grown_trans HG3.out hg4
  clear hg4
  go_wp2_with fail
  refine (zzmost _ _ _ (by omega) (by omega) (by omega)).mono ?_
  rintro e w5 ⟨rfl, hg5⟩
  rw [Int.toNat_natCast, cntV_end]
  have HG5 : Hid (Grown w w5) := grown_trans HG4.out hg5
  clear hg5
  go_wp2
  go_ret
  exact ⟨by simp, HG5.out⟩
end Go.Proofs.Qxb6614787a
