/-
  No cell of these rows narrows 'for every input' (looked for: loops, veiled, ifaces, maps, wideKeys, modest, calm, conditions, laid).
  DERIVED. THE GIVEN ROWS OF THIS SEAT. 4 by the template 'for every input the law returns true; each argument reads behind the call as it read before'; 0 by the template 'total and deterministic' (their statements: Qxb6613342aTotals.lean).
  GIVEN WITH THE SEED: the statements are not yours to turn. If you find one false, say at which input.
  Laid BY PROGRAM, IN A SANDBOX (cutbox-rows.mjs): the forced cells as the released guide's own fill.sh prints them over the translation ee2834e586f2f490… (all of the seat's roots in one cut). By AI agents, Wed Nov 11 2026. No macro, syntax, notation, axiom, sorry.
-/
import Derived.Test.Qxb6613342aChecked
import GoSem.Claim
import GoSem.ClaimJoined
import GoSem.ClaimMapViews
import Derived.JoinedTies
import Derived.KernelRfl
namespace Go.Proofs.Qxb6613342a
/- THE CELL 'sum', in the pinned program and in every row, IS THE sha256 OF THE DUMP (.gsa) THAT Qxb6613342aProg.lean LOADS. Nothing in Lean hashes anything: it is a label: what it is worth is what the hold of that sum in a sandbox is worth. -/
noncomputable def Try.pinned : Pinned := { name := "qxb6613342a", sum := "ee2834e586f2f490a69eed3ce20f5bdf4a29fd27df9ee0635f43c62028c49219", checked := Try.checked }
namespace Rows
def none {H : Type} : Left H := { results := [], args := [] }

/-- 'zzlaws_helpers_text_b1.FnLabelIsRepairFixedPoint': WHATEVER THE INPUT: true; the input reads as it did. -/
def fnLabelIsRepairFixedPointSpec : ChangeSpec := { name := "fnLabelIsRepairFixedPoint", fn := fun _ => fun
  | [d] => { results := [.lit (.bool true)], args := [d] }
  | _ => none }
def fnLabelIsRepairFixedPointRow : OpenClaim := { program := "qxb6613342a", sum := "ee2834e586f2f490a69eed3ce20f5bdf4a29fd27df9ee0635f43c62028c49219", func := "example.com/halyard/halyard/zzlaws_helpers_text_b1.FnLabelIsRepairFixedPoint", spec := "fnLabelIsRepairFixedPoint", unfollowed := true, recurses := true, apart := false }
def FnLabelIsRepairFixedPointSaid : Prop := fnLabelIsRepairFixedPointRow.holds Try.pinned (OpenSpec.ofChange fnLabelIsRepairFixedPointSpec)

/-- ITS FALSE NEIGHBOUR: 'it returns false'. Refute it at one input. -/
def fnLabelIsRepairFixedPointWrong : ChangeSpec := { name := "fnLabelIsRepairFixedPoint", fn := fun _ => fun
  | [d] => { results := [.lit (.bool false)], args := [d] }
  | _ => none }
def FnLabelIsRepairFixedPointWrongFalsely : Prop := fnLabelIsRepairFixedPointRow.holds Try.pinned (OpenSpec.ofChange fnLabelIsRepairFixedPointWrong)

/-- 'zzlaws_helpers_text_b1.FnLabelHyphenJoin': WHATEVER THE INPUT: true; the input reads as it did. -/
def fnLabelHyphenJoinSpec : ChangeSpec := { name := "fnLabelHyphenJoin", fn := fun _ => fun
  | [d1, d2] => { results := [.lit (.bool true)], args := [d1, d2] }
  | _ => none }
def fnLabelHyphenJoinRow : OpenClaim := { program := "qxb6613342a", sum := "ee2834e586f2f490a69eed3ce20f5bdf4a29fd27df9ee0635f43c62028c49219", func := "example.com/halyard/halyard/zzlaws_helpers_text_b1.FnLabelHyphenJoin", spec := "fnLabelHyphenJoin", unfollowed := true, recurses := true, apart := false }
def FnLabelHyphenJoinSaid : Prop := fnLabelHyphenJoinRow.holds Try.pinned (OpenSpec.ofChange fnLabelHyphenJoinSpec)

/-- ITS FALSE NEIGHBOUR: 'it returns false'. Refute it at one input. -/
def fnLabelHyphenJoinWrong : ChangeSpec := { name := "fnLabelHyphenJoin", fn := fun _ => fun
  | [d1, d2] => { results := [.lit (.bool false)], args := [d1, d2] }
  | _ => none }
def FnLabelHyphenJoinWrongFalsely : Prop := fnLabelHyphenJoinRow.holds Try.pinned (OpenSpec.ofChange fnLabelHyphenJoinWrong)

/-- 'zzlaws_helpers_text_b1.FnLabelCharEveryByte': WHATEVER THE INPUT: true; the input reads as it did. -/
def fnLabelCharEveryByteSpec : ChangeSpec := { name := "fnLabelCharEveryByte", fn := fun _ => fun
  | [d] => { results := [.lit (.bool true)], args := [d] }
  | _ => none }
def fnLabelCharEveryByteRow : OpenClaim := { program := "qxb6613342a", sum := "ee2834e586f2f490a69eed3ce20f5bdf4a29fd27df9ee0635f43c62028c49219", func := "example.com/halyard/halyard/zzlaws_helpers_text_b1.FnLabelCharEveryByte", spec := "fnLabelCharEveryByte", unfollowed := true, recurses := true, apart := false }
def FnLabelCharEveryByteSaid : Prop := fnLabelCharEveryByteRow.holds Try.pinned (OpenSpec.ofChange fnLabelCharEveryByteSpec)

/-- ITS FALSE NEIGHBOUR: 'it returns false'. Refute it at one input. -/
def fnLabelCharEveryByteWrong : ChangeSpec := { name := "fnLabelCharEveryByte", fn := fun _ => fun
  | [d] => { results := [.lit (.bool false)], args := [d] }
  | _ => none }
def FnLabelCharEveryByteWrongFalsely : Prop := fnLabelCharEveryByteRow.holds Try.pinned (OpenSpec.ofChange fnLabelCharEveryByteWrong)

/-- 'zzlaws_helpers_text_b1.FnAtextIsVisibleNonSpecial': WHATEVER THE INPUT: true; the input reads as it did. -/
def fnAtextIsVisibleNonSpecialSpec : ChangeSpec := { name := "fnAtextIsVisibleNonSpecial", fn := fun _ => fun
  | [d] => { results := [.lit (.bool true)], args := [d] }
  | _ => none }
def fnAtextIsVisibleNonSpecialRow : OpenClaim := { program := "qxb6613342a", sum := "ee2834e586f2f490a69eed3ce20f5bdf4a29fd27df9ee0635f43c62028c49219", func := "example.com/halyard/halyard/zzlaws_helpers_text_b1.FnAtextIsVisibleNonSpecial", spec := "fnAtextIsVisibleNonSpecial", inPlace := ["internal/bytealg.IndexByteString", "internal/bytealg.IndexString"], named := ["internal/bytealg.MaxLen"], apart := false }
def FnAtextIsVisibleNonSpecialSaid : Prop := fnAtextIsVisibleNonSpecialRow.holds Try.pinned (OpenSpec.ofChange fnAtextIsVisibleNonSpecialSpec)

/-- ITS FALSE NEIGHBOUR: 'it returns false'. Refute it at one input. -/
def fnAtextIsVisibleNonSpecialWrong : ChangeSpec := { name := "fnAtextIsVisibleNonSpecial", fn := fun _ => fun
  | [d] => { results := [.lit (.bool false)], args := [d] }
  | _ => none }
def FnAtextIsVisibleNonSpecialWrongFalsely : Prop := fnAtextIsVisibleNonSpecialRow.holds Try.pinned (OpenSpec.ofChange fnAtextIsVisibleNonSpecialWrong)

end Rows
end Go.Proofs.Qxb6613342a
