/-
  No cell of these rows narrows 'for every input' (looked for: loops, veiled, ifaces, maps, wideKeys, modest, calm, conditions, laid).
  DERIVED. THE GIVEN ROWS OF THIS SEAT. 2 by the template 'for every input the law returns true; each argument reads behind the call as it read before'; 0 by the template 'total and deterministic' (their statements: Qxb6614787aTotals.lean).
  GIVEN WITH THE SEED: the statements are not yours to turn. If you find one false, say at which input.
  Laid BY PROGRAM, IN A SANDBOX (cutbox-rows.mjs): the forced cells as the released guide's own fill.sh prints them over the translation 8a57f844e5b386eb… (all of the seat's roots in one cut). By AI agents, Wed Nov 11 2026. No macro, syntax, notation, axiom, sorry.
-/
import Derived.Test.Qxb6614787aChecked
import GoSem.Claim
import GoSem.ClaimJoined
import GoSem.ClaimMapViews
import Derived.JoinedTies
import Derived.KernelRfl
namespace Go.Proofs.Qxb6614787a
/- THE CELL 'sum', in the pinned program and in every row, IS THE sha256 OF THE DUMP (.gsa) THAT Qxb6614787aProg.lean LOADS. Nothing in Lean hashes anything: it is a label: what it is worth is what the hold of that sum in a sandbox is worth. -/
noncomputable def Try.pinned : Pinned := { name := "qxb6614787a", sum := "8a57f844e5b386eb5f9b2b67d21084ec7cd70dacff22491f197ea491338bbfa9", checked := Try.checked }
namespace Rows
def none {H : Type} : Left H := { results := [], args := [] }

/-- 'zzlaws_internal_csvfile_b1.FnMostStepsAtLineEnds': WHATEVER THE INPUT: true; the input reads as it did. -/
def fnMostStepsAtLineEndsSpec : ChangeSpec := { name := "fnMostStepsAtLineEnds", fn := fun _ => fun
  | [d1, d2] => { results := [.lit (.bool true)], args := [d1, d2] }
  | _ => none }
def fnMostStepsAtLineEndsRow : OpenClaim := { program := "qxb6614787a", sum := "8a57f844e5b386eb5f9b2b67d21084ec7cd70dacff22491f197ea491338bbfa9", func := "example.com/tenderbook/tenderbook/zzlaws_internal_csvfile_b1.FnMostStepsAtLineEnds", spec := "fnMostStepsAtLineEnds", inPlace := ["internal/bytealg.CountString", "internal/bytealg.IndexByteString", "internal/bytealg.IndexString"], named := ["internal/bytealg.MaxLen"], apart := false }
def FnMostStepsAtLineEndsSaid : Prop := fnMostStepsAtLineEndsRow.holds Try.pinned (OpenSpec.ofChange fnMostStepsAtLineEndsSpec)

/-- ITS FALSE NEIGHBOUR: 'it returns false'. Refute it at one input. -/
def fnMostStepsAtLineEndsWrong : ChangeSpec := { name := "fnMostStepsAtLineEnds", fn := fun _ => fun
  | [d1, d2] => { results := [.lit (.bool false)], args := [d1, d2] }
  | _ => none }
def FnMostStepsAtLineEndsWrongFalsely : Prop := fnMostStepsAtLineEndsRow.holds Try.pinned (OpenSpec.ofChange fnMostStepsAtLineEndsWrong)

/-- 'zzlaws_internal_csvfile_b1.FnMostAddsOverJoin': WHATEVER THE INPUT: true; the input reads as it did. -/
def fnMostAddsOverJoinSpec : ChangeSpec := { name := "fnMostAddsOverJoin", fn := fun _ => fun
  | [d1, d2] => { results := [.lit (.bool true)], args := [d1, d2] }
  | _ => none }
def fnMostAddsOverJoinRow : OpenClaim := { program := "qxb6614787a", sum := "8a57f844e5b386eb5f9b2b67d21084ec7cd70dacff22491f197ea491338bbfa9", func := "example.com/tenderbook/tenderbook/zzlaws_internal_csvfile_b1.FnMostAddsOverJoin", spec := "fnMostAddsOverJoin", inPlace := ["internal/bytealg.CountString", "internal/bytealg.IndexByteString", "internal/bytealg.IndexString"], named := ["internal/bytealg.MaxLen"], apart := false }
def FnMostAddsOverJoinSaid : Prop := fnMostAddsOverJoinRow.holds Try.pinned (OpenSpec.ofChange fnMostAddsOverJoinSpec)

/-- ITS FALSE NEIGHBOUR: 'it returns false'. Refute it at one input. -/
def fnMostAddsOverJoinWrong : ChangeSpec := { name := "fnMostAddsOverJoin", fn := fun _ => fun
  | [d1, d2] => { results := [.lit (.bool false)], args := [d1, d2] }
  | _ => none }
def FnMostAddsOverJoinWrongFalsely : Prop := fnMostAddsOverJoinRow.holds Try.pinned (OpenSpec.ofChange fnMostAddsOverJoinWrong)

end Rows
end Go.Proofs.Qxb6614787a
