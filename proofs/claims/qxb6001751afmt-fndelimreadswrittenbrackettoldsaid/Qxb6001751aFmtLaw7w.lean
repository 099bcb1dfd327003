import Derived.Test.Qxb6001751aFmtLaw7n
import Derived.Test.Qxb6001751aFmtIsRow
namespace Go.Proofs.Qxb6001751aFmt
open Go.RowKit Tk Go.Extern.Stop Go.Stop Go.Extern

/-- The whole law: at every text of separators, every number, every slice. -/
theorem law7_walk (F : Interp) (s : ByteArray) (c : Int) (a : Option Addr) (len cap : Nat) (zs : List Int) (w : World) (hF : F.answers w.tape) (hs : s.size ≤ maxLen) (hc : (Lit.int .u8 c).wf = true) (hz : IsRow .u8 w a len cap zs) :
    Calls Tryf.prog 7 #[.string s, .int .u8 c, .slice a len cap] w fun e w' => e = .returned (.bool true) ∧ Below w.heap.size w w' := by
  have hcb := byte_wf hc
  by_cases hlong : 1048576 < s.size + len
  · refine (law7_long s c a len cap w hlong).mono ?_
    rintro e w' ⟨rfl, rfl⟩
    exact ⟨rfl, Below.refl _ _⟩
  · cases hall : (bytesI s).all sepB with
    | false =>
      refine (law7_mixed s c a len cap w hs (by omega) hall).mono ?_
      rintro e w' ⟨rfl, rfl⟩
      exact ⟨rfl, Below.refl _ _⟩
    | true =>
      have hr : c % 4 = ((c % 4).toNat : Nat) := by omega
      rcases hz.text with ⟨rfl, rfl, rfl⟩ | ⟨x, D, rfl, rfl, hlc, hby, hdat⟩
      · exact law7_nil F s c w hF hs (by omega) hall _ hcb.1 hr (by omega)
      · exact law7_main F s c x cap D w hF hdat hby hs (by omega) hall _ hcb.1 hr (by omega)

end Go.Proofs.Qxb6001751aFmt
