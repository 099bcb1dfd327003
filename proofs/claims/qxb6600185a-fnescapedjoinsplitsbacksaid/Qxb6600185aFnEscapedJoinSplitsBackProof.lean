/-
  'FnEscapedJoinSplitsBackSaid': the row, out of the walk.
-/
import Derived.Test.Qxb6600185aRows
import Derived.Test.Qxb6600185aLaw8
import Derived.WalkKit
import Derived.SliceStrings
import Derived.ProofKit
import Derived.OpenShut
import Derived.ShutString
import Derived.ChangeOld
import Derived.Below
namespace Go.Proofs.Qxb6600185a.fnEscapedJoinSplitsBack
open Go.ChangeShapes Go.WideShapes Go.ChangeAt Go.RowKit
open Go.ChangeMaps (open_string shut_string)
set_option linter.unusedVariables false

theorem own : ownKnob Try.prog.godebug = none := by kernel_rfl
theorem laidOut : laidOutB Try.prog = true := by kernel_rfl

/-- A slice of strings that came in: nil; or a row of 'cap' cells, the strings 'zs', of which the first 'len' are its elements. -/
def IsStrs (w : World) (a : Option Addr) (len cap : Nat) (zs : List ByteArray) : Prop :=
  (a = none ∧ len = 0 ∧ cap = 0 ∧ zs = []) ∨
  ∃ x, a = some x ∧ len ≤ cap ∧ cap ≤ maxLen ∧ zs.length = cap ∧ ∀ i, i < zs.length → w.cell? (x.add i) = some (.string (zs.getD i ByteArray.empty))

theorem IsStrs.text {w : World} {a : Option Addr} {len cap : Nat} {zs : List ByteArray} (h : IsStrs w a len cap zs) :
    len ≤ 9223372036854775807 ∧ ∃ ss : List ByteArray, ss.length = len ∧ SDat w a ss := by
  rcases h with ⟨_, h2, _, _⟩ | ⟨x, rfl, hl, hm, hz, hc⟩
  · exact ⟨by omega, [], by simp [h2], .inl rfl⟩
  · have hlen : (zs.take len).length = len := by rw [List.length_take]; omega
    refine ⟨by unfold maxLen at hm; omega, zs.take len, hlen, ?_⟩
    rcases Nat.eq_zero_or_pos len with rfl | hpos
    · exact .inl (by simp)
    · have h0 := hc 0 (by omega)
      have hspot : x.spot = none := by
        have := World.cell?_spot h0
        simpa [Addr.add] using this
      have hb : x.block < w.heap.size := by
        rcases Nat.lt_or_ge x.block w.heap.size with h | h
        · exact h
        · have e : (x.add 0) = x := by simp [Addr.add]
          rw [e] at h0
          simp [World.cell?, Array.getElem?_eq_none h] at h0
      obtain ⟨b, off, spot⟩ := x
      simp only at hspot hb
      subst hspot
      refine .inr ⟨b, off, rfl, hb, fun i hi => ?_⟩
      have hi' : i < zs.length := by omega
      have := hc i hi'
      rw [WideShapes.add_plain] at this
      rw [this]
      congr 2
      rw [List.getElem_take]
      simp [List.getD, List.getElem?_eq_getElem hi']

theorem walk (a0 : Option Addr) (len0 cap0 : Nat) (z0 : List ByteArray) (a1 : Int) (w : World) (w0 : IsStrs w a0 len0 cap0 z0) (w1 : (Lit.int .u8 a1).wf = true) :
    Calls Try.prog 8 #[.slice a0 len0 cap0, .int .u8 a1] w fun e w' => e = .returned (.bool true) ∧ Below w.heap.size w w' := by
  obtain ⟨hmax, ss, rfl, hd⟩ := w0.text
  have hb : 0 ≤ a1 ∧ a1 ≤ 255 := by
    simp [Lit.wf, IntKind.min, IntKind.max, IntKind.signed, IntKind.bits] at w1
    omega
  have e : (((UInt8.ofNat a1.toNat).toNat : Nat) : Int) = a1 := by
    rw [UInt8.toNat_ofNat']
    omega
  have := law8_any a0 cap0 ss (UInt8.ofNat a1.toNat) w hd hmax
  rw [e] at this
  exact this

set_option maxRecDepth 100000 in
theorem lifted (os : Os) (started : os.Started) (H : Type) (enc : TypeId × Value → H) :
    ReturnsInHanded {} Try.checked os 8 .any (Rows.fnEscapedJoinSplitsBackSpec.pre6 enc Try.prog Try.f8 Rows.fnEscapedJoinSplitsBackRow.domain false) (Rows.fnEscapedJoinSplitsBackSpec.post enc Try.prog Try.f8 false true false false) := by
  refine returnsInHanded_of_change (C := Try.checked) own started (by kernel_rfl) Try.func8
    (ChangeSpec.witness6 (enc := enc) (C := Try.checked) false ⟨#[], #[.slice none 0 0, .int .u8 0], []⟩ 8 (by kernel_rfl) (by kernel_rfl) (by kernel_rfl) (by kernel_rfl)) ?_
  intro W base args ds gs before hval0 hW hcnd _
  have hval : ∀ (j : Nat) t v, Try.f8.params[j]? = some t → args[j]? = some v → Value.okWide Try.prog W .any base t v := hval0
  have hW' := hW
  obtain ⟨p, q, hA0, hV, rfl, hfz, hnd⟩ := hW
  have hA : DataW.TrodAll enc Try.prog W 0 (fun _ => true) true Try.f8.params.toList args.toList ds p := hA0
  rw [Try.params8] at hA hval
  obtain ⟨v0, vs0, d0, ds0, p0, q0, hargs, rfl, rfl, h0, r0⟩ := trodAll_cons hA
  obtain ⟨v1, vs1, d1, ds1, p1, q1, rfl, rfl, rfl, h1, r1⟩ := trodAll_cons r0
  obtain ⟨rfl, rfl, rfl⟩ := trodAll_nil r1
  obtain rfl : args = #[v0, v1] := by cases args; simp_all
  obtain ⟨rfl, rfl⟩ := trodVars_none hV
  obtain ⟨a0, len0, cap0, rfl⟩ := okWide_slice Try.underlying41 (hval 0 41 v0 rfl rfl)
  have k0 := h0
  have lt0 : ∀ x ∈ p0, x.block < W.heap.size := by obtain ⟨m, hm⟩ := k0; exact DataW.trod_lt m _ _ _ hm
  obtain ⟨z0, w0⟩ : ∃ zs, IsStrs W a0 len0 cap0 zs := by
    obtain ⟨fuel, hf⟩ := h0
    rcases open_strings Try.underlying41 Try.underlying9 (by kernel_rfl) hf with ⟨hcs, _⟩ | ⟨x, l, c, zs, hcs, _, hl, hm, hz, _, hcell, hwz⟩
    · simp [Value.cells] at hcs
      obtain ⟨rfl, rfl, rfl⟩ := hcs
      exact ⟨[], .inl ⟨rfl, rfl, rfl, rfl⟩⟩
    · simp [Value.cells] at hcs
      obtain ⟨rfl, rfl, rfl⟩ := hcs
      exact ⟨zs, .inr ⟨_, rfl, hl, hm, by simpa using hz, hcell⟩⟩
  obtain ⟨a1, rfl, rfl, rfl, w1⟩ := open_int Try.underlying5 (hval 1 5 v1 rfl rfl) h1
  clear hA0 hval0
  refine (walk a0 len0 cap0 z0 a1 W w0 w1).mono fun e W' ⟨he, bel⟩ => ?_
  subst he
  exact ⟨_, rfl, _, _, _, [], _, [], hW', trodAll_mk1 (shut_bool Try.underlying4 _), (trodAll_cons_mk (Below.trod laidOut (by kernel_rfl) (of_decide_eq_true (by kernel_rfl)) k0 bel lt0) (trodAll_cons_mk (shut_int Try.underlying5 w1) trodAll_mk0)), rfl, bel.frame _, fun h => by cases h⟩

theorem over : Rows.fnEscapedJoinSplitsBackRow.holds Try.pinned (OpenSpec.ofChange Rows.fnEscapedJoinSplitsBackSpec) :=
  OpenClaim.holds_of_wide 8 Try.f8 rfl rfl rfl rfl rfl rfl rfl ⟨rfl, rfl, rfl, rfl, rfl⟩ rfl rfl rfl rfl rfl (by kernel_rfl) Try.func8 (by kernel_rfl)
    (of_decide_eq_true (by kernel_rfl)) (by unfold Func.isWrapper; first | (rw [if_pos (by decide +kernel)]; kernel_rfl) | (rw [if_neg (by decide +kernel)]; exact ⟨rfl, rfl⟩))
    (fun os started H enc _ => lifted os started H enc)

end Go.Proofs.Qxb6600185a.fnEscapedJoinSplitsBack
namespace Go.Proofs.Qxb6600185a
/-- THE STATEMENT. -/
theorem fnEscapedJoinSplitsBack_proved : Rows.FnEscapedJoinSplitsBackSaid := fnEscapedJoinSplitsBack.over
end Go.Proofs.Qxb6600185a
