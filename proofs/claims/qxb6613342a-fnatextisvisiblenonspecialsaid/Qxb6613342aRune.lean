/-
  strings.IndexRune and ContainsRune at a text of ASCII bytes and a rune beyond ASCII: it is not there.
-/
import Derived.Test.Qxb6613342aShelf
import Derived.WalkKit
import Derived.WalkSpells
import Derived.WalkLawsBesides
import Derived.Deep.QuietTactic
import Derived.BigQuiet
import Derived.Deep.LoopGhost
import Derived.WalkMore
import Derived.Laws.Runes
import Derived.Laws.RangeString
import Derived.Lib.IndexBytes
import Derived.Lib.IndexLaws
namespace Go.Proofs.Qxb6613342a
open Go.RowKit

/-- ASCII alone. -/
def Asc (s : ByteArray) : Prop := ∀ i (h : i < s.size), s[i].toNat < 128

theorem index_none (l : List UInt8) (c : UInt8) (h : ∀ b ∈ l, b ≠ c) : Lib.indexByte l c = -1 := by
  induction l with
  | nil => rfl
  | cons b l ih =>
    have h1 : (b == c) = false := beq_eq_false_iff_ne.2 (h b (by simp))
    have h2 := ih fun x hx => h x (by simp [hx])
    simp [Lib.indexByte, h1, h2]

theorem mem_asc {s : ByteArray} (hs : Asc s) {b : UInt8} (hb : b ∈ s.data.toList) : b.toNat < 128 := by
  obtain ⟨i, hi, rfl⟩ := List.getElem_of_mem hb
  have hi' : i < s.size := by rw [Array.length_toList] at hi; exact hi
  have := hs i hi'
  rw [Array.getElem_toList]
  exact this

/-- No byte from 128 on is found in a tail of such a text. -/
theorem idx_no (s : ByteArray) (a : Nat) (c : Int) (w : World) (hs : Asc s) (h0 : 128 ≤ c) (h1 : c ≤ 255) :
    Calls Try.prog 23 #[.string (s.extract a s.size), .int .u8 c] w fun e w' => e = .returned (.int .i64 (-1)) ∧ w' = w := by
  have e : Lib.indexByte (s.extract a s.size).data.toList c.toNat.toUInt8 = -1 := by
    refine index_none _ _ fun b hb => ?_
    rw [Lib.extract_to_end] at hb
    have := mem_asc hs (List.mem_of_mem_drop hb)
    intro e
    rw [e] at this
    have e2 : (c.toNat.toUInt8).toNat = c.toNat := by
      show c.toNat % 256 = c.toNat
      omega
    omega
  have h := Try.strings_IndexByte (s.extract a s.size) c w
  rw [e] at h
  exact h

set_option maxRecDepth 100000 in
set_option maxHeartbeats 400000 in
theorem indexRune_bad (s : ByteArray) (r : Int) (w : World) (hv : Lib.validRune r = false) :
    Calls Try.prog 22 #[.string s, .int .i32 r] w fun e w' => e = .returned (.int .i64 (-1)) ∧ Below w.heap.size w w' := by
  have hr : ¬ (0 ≤ r ∧ r < 128) ∧ (r == 65533) = false := by
    simp [Lib.validRune] at hv
    constructor
    · omega
    · rw [beq_eq_false_iff_ne]; omega
  obtain ⟨h1, h2⟩ := hr
  by_cases h0 : 0 ≤ r
  · have h3 : ¬ r < 128 := by omega
    clear h1
    go_enter Try.func22, Try.ntmps22
    go_wp2_with (go_at_call 24; refine (Try.utf8_ValidRune _ _).mono ?_; rintro e w' ⟨rfl, hw⟩; have hw2 := hw.symm; clear hw; subst hw2; rw [hv])
    go_ret
    exact ⟨rfl, Below.refl _ _⟩
  · clear h1
    go_enter Try.func22, Try.ntmps22
    go_wp2_with (go_at_call 24; refine (Try.utf8_ValidRune _ _).mono ?_; rintro e w' ⟨rfl, hw⟩; have hw2 := hw.symm; clear hw; subst hw2; rw [hv])
    go_ret
    exact ⟨rfl, Below.refl _ _⟩

set_option maxRecDepth 100000 in
set_option maxHeartbeats 400000 in
theorem indexRune_error (s : ByteArray) (w : World) (hs : Asc s) :
    Calls Try.prog 22 #[.string s, .int .i32 65533] w fun e w' => e = .returned (.int .i64 (-1)) ∧ Below w.heap.size w w' := by
  go_enter Try.func22, Try.ntmps22
  go_wp2
  go_loopg [] s.size (fun g wr => ∃ pos : Nat, g = s.size - pos ∧ pos ≤ s.size ∧ wr = w.iter s pos)
  case atStart => exact ⟨0, rfl, Nat.zero_le _, rfl⟩
  case round =>
    obtain ⟨pos, hg, hpos, rfl⟩ := hrel
    have HG : Hid (gk = s.size - pos) := hg
    clear hg
    by_cases hlt : pos < s.size
    · have hnx := fun ty => run_next_ascii (P := Try.prog) w s pos ty hlt (hs pos hlt)
      have hne : ((s[pos].toNat : Int) == 65533) = false := beq_eq_false_iff_ne.2 (by have := hs pos hlt; omega)
      clear hs
      go_wp2
      go_roundg (s.size - (pos + 1))
      case measure => have := HG.out; omega
      case rel => exact ⟨pos + 1, rfl, by omega, rfl⟩
    · have hnx := fun ty => run_next_end (P := Try.prog) w s pos ty hlt
      clear hs
      go_wp2
      go_ret
      exact ⟨rfl, (Below.refl _ _).alloc (Nat.le_refl _) _⟩

end Go.Proofs.Qxb6613342a
