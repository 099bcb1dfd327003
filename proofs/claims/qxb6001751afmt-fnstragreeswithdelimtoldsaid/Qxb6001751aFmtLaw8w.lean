import Derived.Test.Qxb6001751aFmtLaw8
import Derived.Test.Qxb6001751aFmtIsRow
namespace Go.Proofs.Qxb6001751aFmt
open Go.RowKit Tk Go.Extern.Stop Go.Stop Go.Extern

/-- What came in, out of the row. -/
theorem IsRow.came {w : World} {a : Option Addr} {len cap : Nat} {zs : List Int} (h : IsRow .u8 w a len cap zs) :
    len ≤ 9223372036854775807 ∧ ∃ D, D.length = len ∧ Bytes D ∧ Came w a cap D := by
  constructor
  · rcases h with ⟨_, h2, _, _⟩ | ⟨x, _, hl, hm, _⟩
    · omega
    · unfold maxLen at hm; omega
  · rcases h.text with ⟨rfl, rfl, rfl⟩ | ⟨x, D, rfl, hD, _, hby, hdat⟩
    · exact ⟨[], rfl, fun n hn => by simp at hn, .inl ⟨rfl, rfl, rfl⟩⟩
    · exact ⟨D, hD, hby, .inr ⟨x, rfl, hdat⟩⟩

/-- The whole law: every slice, every place, every wanted byte. -/
theorem law8_walk (F : Interp) (a : Option Addr) (len cap : Nat) (zs : List Int) (p c : Int) (w : World) (hF : F.answers w.tape) (hz : IsRow .u8 w a len cap zs) (_hp : (Lit.int .i64 p).wf = true) (_hc : (Lit.int .u8 c).wf = true) :
    Calls Tryf.prog 8 #[.slice a len cap, .int .i64 p, .int .u8 c] w fun e w' => e = .returned (.bool true) ∧ Below w.heap.size w w' := by
  obtain ⟨hmax, D, rfl, hby, hcame⟩ := hz.came
  by_cases hlong : 1048576 < D.length
  · refine (law8_long a D.length cap p c w hmax hlong).mono ?_
    rintro e w' ⟨rfl, rfl⟩
    exact ⟨rfl, Below.refl _ _⟩
  · by_cases hout : p < 0 ∨ (D.length : Int) < p
    · refine (law8_out a D.length cap p c w (by omega) hout).mono ?_
      rintro e w' ⟨rfl, rfl⟩
      exact ⟨rfl, Below.refl _ _⟩
    · obtain ⟨q, rfl⟩ := Int.eq_ofNat_of_zero_le (show 0 ≤ p by omega)
      cases hr : readB D q with
      | false =>
        refine (law8_unread a cap D q c w hcame.dat (by omega) (by omega) hr).mono ?_
        rintro e w' ⟨rfl, rfl⟩
        exact ⟨rfl, Below.refl _ _⟩
      | true => exact law8_main F a cap D q c w hF hcame hby (by omega) (by omega) hr

end Go.Proofs.Qxb6001751aFmt
