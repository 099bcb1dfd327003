/-
  csvfile.ZZRowsMost: one more than the line ends from a place of the text on.
-/
import Derived.Test.Qxb6614787aShelf
import Derived.WalkKit
import Derived.WalkSpells
import Derived.WalkLawsBesides
import Derived.Deep.QuietTactic
import Derived.BigQuiet
import Derived.Lib.IndexBytes
namespace Go.Proofs.Qxb6614787a
open Go.RowKit

theorem grown_trans {a b c : World} (h : Grown a b) (k : Grown b c) : Grown a c :=
  ⟨World.keptBut_trans h.1 k.1, fun x => (k.2.1 x).trans (h.2.1 x), Nat.le_trans h.2.2 k.2.2⟩

theorem grown_drewN {a b : World} (h : Grown a b) (n : Nat) : Grown a (b.drewN n) := h

/-- The line ends of s from p on. -/
def cntV (s : ByteArray) (p : Nat) : Nat := Lib.countByte (s.extract p s.size).data.toList 10

theorem cntV_eq (s : ByteArray) (p : Nat) : cntV s p = (s.data.toList.drop p).count 10 := by
  unfold cntV
  rw [Lib.extract_to_end]
  rfl

theorem cntV_le (s : ByteArray) (p : Nat) : cntV s p ≤ s.size := by
  rw [cntV_eq]
  have h1 := List.count_le_length (a := (10 : UInt8)) (l := s.data.toList.drop p)
  rw [List.length_drop, Array.length_toList] at h1
  have h2 : s.data.size = s.size := rfl
  omega

theorem count_at (s : ByteArray) (p : Nat) (w : World) : Calls Try.prog 9 #[.string (s.extract p s.size), .string ⟨#[10]⟩] w fun e w' => e = .returned (.int .i64 (cntV s p)) ∧ w' = w :=
  Try.strings_Count_one (s.extract p s.size) 10 w

set_option maxHeartbeats 400000 in
theorem most_any (t : Nat) (s : ByteArray) (p : Nat) (w : World) (hs : s.size ≤ 2097152) (hp : p ≤ s.size) (h1 : w.cell? ⟨t, 1, none⟩ = some (.string s)) (h2 : w.cell? ⟨t, 2, none⟩ = some (.int .i64 p)) :
    Calls Try.prog 8 #[.pointer (some ⟨t, 0, none⟩)] w fun e w' => e = .returned (.int .i64 ((cntV s p : Int) + 1)) ∧ Grown w w' := by
  have hc := cntV_le s p
  go_enter Try.func8, Try.ntmps8
  go_wp2
  go_quiet ((go_at_call 9; exact Calls.quiet_of_same (count_at _ _ _)))
  go_wp2
  go_ret
  exact ⟨rfl, grown_drewN (Grown.refl _) _⟩

set_option maxHeartbeats 400000 in
theorem zzmost (s : ByteArray) (p : Int) (w : World) (hs : s.size ≤ 2097152) (hp0 : 0 ≤ p) (hp : p ≤ s.size) :
    Calls Try.prog 6 #[.string s, .int .i64 p] w fun e w' => e = .returned (.int .i64 ((cntV s p.toNat : Int) + 1)) ∧ Grown w w' := by
  obtain ⟨q, rfl⟩ := Int.eq_ofNat_of_zero_le hp0
  rw [Int.toNat_natCast]
  go_enter Try.func6, Try.ntmps6
  go_wp2_with fail
  refine (most_any w.heap.size s q _ hs (by omega) (by simp) (by simp)).mono ?_
  rintro e w1 ⟨rfl, hg⟩
  have HG : Hid (Grown w w1) := grown_trans ((Grown.refl w).alloc _ _) hg
  clear hg
  go_wp2
  go_ret
  exact ⟨rfl, HG.out⟩
end Go.Proofs.Qxb6614787a
