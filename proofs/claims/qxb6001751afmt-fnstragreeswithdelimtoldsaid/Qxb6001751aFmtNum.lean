/-
  strings.IndexByte at the bytes of a number: is the byte among them?
-/
import Derived.Test.Qxb6001751aFmtShelf
import Derived.Test.Qxb6001751aFmtBase
namespace Go.Proofs.Qxb6001751aFmt
open Go.RowKit Tk

/-- Where the byte c stands among a number's bytes; -1 where it does not. -/
def numIdx (c : Int) : Int := Lib.indexByte [43, 45, 46, 48, 49, 50, 51, 52, 53, 54, 55, 56, 57, 69, 101] c.toNat.toUInt8

theorem numIdx_all : ∀ n : Fin 256, decide (0 ≤ numIdx (n.val : Int)) = numB (n.val : Int) := by decide +kernel

theorem numIdx_iff (c : Int) (h0 : 0 ≤ c) (h1 : c ≤ 255) : decide (0 ≤ numIdx c) = numB c := by
  have := numIdx_all ⟨c.toNat, by omega⟩
  have e : ((c.toNat : Nat) : Int) = c := by omega
  simp only [e] at this
  exact this

theorem numIdx_yes (c : Int) (h0 : 0 ≤ c) (h1 : c ≤ 255) (h : numB c = true) : 0 ≤ numIdx c := by
  have := numIdx_iff c h0 h1
  rw [h] at this
  simpa using this

theorem numIdx_no (c : Int) (h0 : 0 ≤ c) (h1 : c ≤ 255) (h : numB c = false) : numIdx c < 0 := by
  have := numIdx_iff c h0 h1
  rw [h] at this
  simpa using this

theorem indexNum (c : Int) (w : World) :
    Calls Tryf.prog 41 #[.string ⟨#[43, 45, 46, 48, 49, 50, 51, 52, 53, 54, 55, 56, 57, 69, 101]⟩, .int .u8 c] w fun e w' => e = .returned (.int .i64 (numIdx c)) ∧ w' = w :=
  Tryf.strings_IndexByte _ c w

end Go.Proofs.Qxb6001751aFmt
