/-
  A slice of bytes that came in, as the walks want it.
-/
import Derived.Test.Qxb6001751aFmtBase
import Derived.WideShapes
namespace Go.Proofs.Qxb6001751aFmt
open Go.RowKit Tk

/-- A slice of integers that came in: nil; or a row of 'cap' cells, the numbers 'zs', of which the first 'len' are its elements. -/
def IsRow (k : IntKind) (w : World) (a : Option Addr) (len cap : Nat) (zs : List Int) : Prop :=
  (a = none ∧ len = 0 ∧ cap = 0 ∧ zs = []) ∨
  ∃ x, a = some x ∧ len ≤ cap ∧ cap ≤ maxLen ∧ zs.length = cap ∧ (∀ i, i < zs.length → w.cell? (x.add i) = some (.int k (zs.getD i 0))) ∧ ∀ n ∈ zs, (Lit.int k n).wf = true

theorem byte_wf {n : Int} (h : (Lit.int .u8 n).wf = true) : 0 ≤ n ∧ n ≤ 255 := by
  simp [Lit.wf, IntKind.min, IntKind.max, IntKind.signed, IntKind.bits] at h
  omega

theorem int_wf {n : Int} (h : (Lit.int .i64 n).wf = true) : -9223372036854775808 ≤ n ∧ n ≤ 9223372036854775807 := by
  simp [Lit.wf, IntKind.min, IntKind.max, IntKind.signed, IntKind.bits] at h
  omega

/-- Out of such a row: nil, or a text of bytes. -/
theorem IsRow.text {w : World} {a : Option Addr} {len cap : Nat} {zs : List Int} (h : IsRow .u8 w a len cap zs) :
    (a = none ∧ len = 0 ∧ cap = 0) ∨ ∃ x D, a = some x ∧ D.length = len ∧ len ≤ cap ∧ Bytes D ∧ Dat w (some x) D := by
  rcases h with ⟨h1, h2, h3, _⟩ | ⟨x, rfl, hl, _, hz, hc, hw⟩
  · exact .inl ⟨h1, h2, h3⟩
  · have hlen : (zs.take len).length = len := by rw [List.length_take]; omega
    refine .inr ⟨x, zs.take len, rfl, hlen, hl, fun n hn => byte_wf (hw n (List.mem_of_mem_take hn)), ?_⟩
    rcases Nat.eq_zero_or_pos len with rfl | hpos
    · exact .inl (by simp)
    · have h0 := hc 0 (by omega)
      have hspot : x.spot = none := by
        have := World.cell?_spot h0
        simpa [Addr.add] using this
      have hb : x.block < w.heap.size := by
        rcases Nat.lt_or_ge x.block w.heap.size with h | h
        · exact h
        · have e : (x.add 0) = x := by simp [Addr.add]
          rw [e] at h0
          simp [World.cell?, Array.getElem?_eq_none h] at h0
      obtain ⟨b, off, spot⟩ := x
      simp only at hspot hb
      subst hspot
      refine .inr ⟨b, off, rfl, hb, fun i hi => ?_⟩
      have hi' : i < zs.length := by omega
      have := hc i hi'
      rw [WideShapes.add_plain] at this
      rw [this]
      congr 2
      simp only [List.getD, List.getElem?_take]
      rw [if_pos (by omega)]

end Go.Proofs.Qxb6001751aFmt
