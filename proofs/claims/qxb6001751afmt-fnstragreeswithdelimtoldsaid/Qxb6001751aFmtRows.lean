/-
  No cell of these rows narrows 'for every input' (looked for: loops, veiled, ifaces, maps, wideKeys, modest, calm, conditions, laid).
  DERIVED. THE GIVEN ROWS OF THIS SEAT. 8 by the template 'for every input the law returns true; each argument reads behind the call as it read before'; 0 by the template 'total and deterministic' (their statements: Qxb6001751aFmtTotals.lean).
  GIVEN WITH THE SEED: the statements are not yours to turn. If you find one false, say at which input.
  Laid BY PROGRAM, IN A SANDBOX (cutbox-rows.mjs): the forced cells as the released guide's own fill.sh prints them over the translation 7ca7bdb7c4f0b119… (all of the seat's roots in one cut). By AI agents, Wed Nov 11 2026. No macro, syntax, notation, axiom, sorry.
-/
import Derived.Test.Qxb6001751aFmtChecked
import GoSem.Claim
import GoSem.ClaimJoined
import GoSem.ClaimMapViews
import Derived.JoinedTies
import Derived.KernelRfl
namespace Go.Proofs.Qxb6001751aFmt
/- THE CELL 'sum', in the pinned program and in every row, IS THE sha256 OF THE DUMP (.gsa) THAT Qxb6001751aFmtProg.lean LOADS. Nothing in Lean hashes anything: it is a label: what it is worth is what the hold of that sum in a sandbox is worth. -/
noncomputable def Tryf.pinned : Pinned := { name := "qxb6001751afmt", sum := "7ca7bdb7c4f0b119a7077640c28bb141fc6a7ee1884a1652b32ba6244fb8c00b", checked := Tryf.checked }
namespace Rows
def none {H : Type} : Left H := { results := [], args := [] }

/-- 'zzlaws_pkg_quote_e1.FnBooleanReadsWrittenWord': WHATEVER THE INPUT: true; the input reads as it did. -/
def fnBooleanReadsWrittenWordSpec : ChangeSpec := { name := "fnBooleanReadsWrittenWord", fn := fun _ => fun
  | [d1, d2, d3, d4] => { results := [.lit (.bool true)], args := [d1, d2, d3, d4] }
  | _ => none }
def fnBooleanReadsWrittenWordRow : OpenClaim := { program := "qxb6001751afmt", sum := "7ca7bdb7c4f0b119a7077640c28bb141fc6a7ee1884a1652b32ba6244fb8c00b", func := "example.com/ratebook/ratebook/zzlaws_pkg_quote_e1.FnBooleanReadsWrittenWord", spec := "fnBooleanReadsWrittenWord", stops := ["fmt.errorf", "fmt.Sprintf"], inPlace := ["internal/bytealg.IndexByteString", "fmt.errorf"], apart := false }
/-- NO THEOREM (fmt's text is open here; it may be false): for the released tool's asking of the row's closed facts alone. THE STATEMENT IS 'FnBooleanReadsWrittenWordToldSaid' (Qxb6001751aFmtCards.lean). -/
def FnBooleanReadsWrittenWordFormAsk : Prop := fnBooleanReadsWrittenWordRow.holds Tryf.pinned (OpenSpec.ofChange fnBooleanReadsWrittenWordSpec)

/-- ITS FALSE NEIGHBOUR: 'it returns false'. Refute it at one input. -/
def fnBooleanReadsWrittenWordWrong : ChangeSpec := { name := "fnBooleanReadsWrittenWord", fn := fun _ => fun
  | [d1, d2, d3, d4] => { results := [.lit (.bool false)], args := [d1, d2, d3, d4] }
  | _ => none }
def FnBooleanReadsWrittenWordWrongFormAsk : Prop := fnBooleanReadsWrittenWordRow.holds Tryf.pinned (OpenSpec.ofChange fnBooleanReadsWrittenWordWrong)

/-- 'zzlaws_pkg_quote_e1.FnBooleanAgreesWithDelim': WHATEVER THE INPUT: true; the input reads as it did. -/
def fnBooleanAgreesWithDelimSpec : ChangeSpec := { name := "fnBooleanAgreesWithDelim", fn := fun _ => fun
  | [d1, d2, d3] => { results := [.lit (.bool true)], args := [d1, d2, d3] }
  | _ => none }
def fnBooleanAgreesWithDelimRow : OpenClaim := { program := "qxb6001751afmt", sum := "7ca7bdb7c4f0b119a7077640c28bb141fc6a7ee1884a1652b32ba6244fb8c00b", func := "example.com/ratebook/ratebook/zzlaws_pkg_quote_e1.FnBooleanAgreesWithDelim", spec := "fnBooleanAgreesWithDelim", stops := ["fmt.errorf", "fmt.Sprintf"], inPlace := ["internal/bytealg.IndexByteString", "fmt.errorf"], apart := false }
/-- NO THEOREM (fmt's text is open here; it may be false): for the released tool's asking of the row's closed facts alone. THE STATEMENT IS 'FnBooleanAgreesWithDelimToldSaid' (Qxb6001751aFmtCards.lean). -/
def FnBooleanAgreesWithDelimFormAsk : Prop := fnBooleanAgreesWithDelimRow.holds Tryf.pinned (OpenSpec.ofChange fnBooleanAgreesWithDelimSpec)

/-- ITS FALSE NEIGHBOUR: 'it returns false'. Refute it at one input. -/
def fnBooleanAgreesWithDelimWrong : ChangeSpec := { name := "fnBooleanAgreesWithDelim", fn := fun _ => fun
  | [d1, d2, d3] => { results := [.lit (.bool false)], args := [d1, d2, d3] }
  | _ => none }
def FnBooleanAgreesWithDelimWrongFormAsk : Prop := fnBooleanAgreesWithDelimRow.holds Tryf.pinned (OpenSpec.ofChange fnBooleanAgreesWithDelimWrong)

/-- 'zzlaws_pkg_quote_e1.FnStrReadsWrittenString': WHATEVER THE INPUT: true; the input reads as it did. -/
def fnStrReadsWrittenStringSpec : ChangeSpec := { name := "fnStrReadsWrittenString", fn := fun _ => fun
  | [d1, d2, d3] => { results := [.lit (.bool true)], args := [d1, d2, d3] }
  | _ => none }
def fnStrReadsWrittenStringRow : OpenClaim := { program := "qxb6001751afmt", sum := "7ca7bdb7c4f0b119a7077640c28bb141fc6a7ee1884a1652b32ba6244fb8c00b", func := "example.com/ratebook/ratebook/zzlaws_pkg_quote_e1.FnStrReadsWrittenString", spec := "fnStrReadsWrittenString", stops := ["fmt.errorf", "fmt.Sprintf"], inPlace := ["internal/bytealg.IndexByteString", "fmt.errorf"], apart := false }
/-- NO THEOREM (fmt's text is open here; it may be false): for the released tool's asking of the row's closed facts alone. THE STATEMENT IS 'FnStrReadsWrittenStringToldSaid' (Qxb6001751aFmtCards.lean). -/
def FnStrReadsWrittenStringFormAsk : Prop := fnStrReadsWrittenStringRow.holds Tryf.pinned (OpenSpec.ofChange fnStrReadsWrittenStringSpec)

/-- ITS FALSE NEIGHBOUR: 'it returns false'. Refute it at one input. -/
def fnStrReadsWrittenStringWrong : ChangeSpec := { name := "fnStrReadsWrittenString", fn := fun _ => fun
  | [d1, d2, d3] => { results := [.lit (.bool false)], args := [d1, d2, d3] }
  | _ => none }
def FnStrReadsWrittenStringWrongFormAsk : Prop := fnStrReadsWrittenStringRow.holds Tryf.pinned (OpenSpec.ofChange fnStrReadsWrittenStringWrong)

/-- 'zzlaws_pkg_quote_e1.FnStrAgreesWithDelim': WHATEVER THE INPUT: true; the input reads as it did. -/
def fnStrAgreesWithDelimSpec : ChangeSpec := { name := "fnStrAgreesWithDelim", fn := fun _ => fun
  | [d1, d2] => { results := [.lit (.bool true)], args := [d1, d2] }
  | _ => none }
def fnStrAgreesWithDelimRow : OpenClaim := { program := "qxb6001751afmt", sum := "7ca7bdb7c4f0b119a7077640c28bb141fc6a7ee1884a1652b32ba6244fb8c00b", func := "example.com/ratebook/ratebook/zzlaws_pkg_quote_e1.FnStrAgreesWithDelim", spec := "fnStrAgreesWithDelim", stops := ["fmt.errorf", "fmt.Sprintf"], inPlace := ["internal/bytealg.IndexByteString", "fmt.errorf"], apart := false }
/-- NO THEOREM (fmt's text is open here; it may be false): for the released tool's asking of the row's closed facts alone. THE STATEMENT IS 'FnStrAgreesWithDelimToldSaid' (Qxb6001751aFmtCards.lean). -/
def FnStrAgreesWithDelimFormAsk : Prop := fnStrAgreesWithDelimRow.holds Tryf.pinned (OpenSpec.ofChange fnStrAgreesWithDelimSpec)

/-- ITS FALSE NEIGHBOUR: 'it returns false'. Refute it at one input. -/
def fnStrAgreesWithDelimWrong : ChangeSpec := { name := "fnStrAgreesWithDelim", fn := fun _ => fun
  | [d1, d2] => { results := [.lit (.bool false)], args := [d1, d2] }
  | _ => none }
def FnStrAgreesWithDelimWrongFormAsk : Prop := fnStrAgreesWithDelimRow.holds Tryf.pinned (OpenSpec.ofChange fnStrAgreesWithDelimWrong)

/-- 'zzlaws_pkg_quote_e1.FnDelimReadsWrittenBracket': WHATEVER THE INPUT: true; the input reads as it did. -/
def fnDelimReadsWrittenBracketSpec : ChangeSpec := { name := "fnDelimReadsWrittenBracket", fn := fun _ => fun
  | [d1, d2, d3] => { results := [.lit (.bool true)], args := [d1, d2, d3] }
  | _ => none }
def fnDelimReadsWrittenBracketRow : OpenClaim := { program := "qxb6001751afmt", sum := "7ca7bdb7c4f0b119a7077640c28bb141fc6a7ee1884a1652b32ba6244fb8c00b", func := "example.com/ratebook/ratebook/zzlaws_pkg_quote_e1.FnDelimReadsWrittenBracket", spec := "fnDelimReadsWrittenBracket", stops := ["fmt.errorf", "fmt.Sprintf"], inPlace := ["internal/bytealg.IndexByteString", "fmt.errorf"], apart := false }
/-- NO THEOREM (fmt's text is open here; it may be false): for the released tool's asking of the row's closed facts alone. THE STATEMENT IS 'FnDelimReadsWrittenBracketToldSaid' (Qxb6001751aFmtCards.lean). -/
def FnDelimReadsWrittenBracketFormAsk : Prop := fnDelimReadsWrittenBracketRow.holds Tryf.pinned (OpenSpec.ofChange fnDelimReadsWrittenBracketSpec)

/-- ITS FALSE NEIGHBOUR: 'it returns false'. Refute it at one input. -/
def fnDelimReadsWrittenBracketWrong : ChangeSpec := { name := "fnDelimReadsWrittenBracket", fn := fun _ => fun
  | [d1, d2, d3] => { results := [.lit (.bool false)], args := [d1, d2, d3] }
  | _ => none }
def FnDelimReadsWrittenBracketWrongFormAsk : Prop := fnDelimReadsWrittenBracketRow.holds Tryf.pinned (OpenSpec.ofChange fnDelimReadsWrittenBracketWrong)

/-- 'zzlaws_pkg_quote_e1.FnDelimClassifiesEveryToken': WHATEVER THE INPUT: true; the input reads as it did. -/
def fnDelimClassifiesEveryTokenSpec : ChangeSpec := { name := "fnDelimClassifiesEveryToken", fn := fun _ => fun
  | [d1, d2, d3] => { results := [.lit (.bool true)], args := [d1, d2, d3] }
  | _ => none }
def fnDelimClassifiesEveryTokenRow : OpenClaim := { program := "qxb6001751afmt", sum := "7ca7bdb7c4f0b119a7077640c28bb141fc6a7ee1884a1652b32ba6244fb8c00b", func := "example.com/ratebook/ratebook/zzlaws_pkg_quote_e1.FnDelimClassifiesEveryToken", spec := "fnDelimClassifiesEveryToken", stops := ["fmt.errorf", "fmt.Sprintf"], inPlace := ["internal/bytealg.IndexByteString", "fmt.errorf"], apart := false }
/-- NO THEOREM (fmt's text is open here; it may be false): for the released tool's asking of the row's closed facts alone. THE STATEMENT IS 'FnDelimClassifiesEveryTokenToldSaid' (Qxb6001751aFmtCards.lean). -/
def FnDelimClassifiesEveryTokenFormAsk : Prop := fnDelimClassifiesEveryTokenRow.holds Tryf.pinned (OpenSpec.ofChange fnDelimClassifiesEveryTokenSpec)

/-- ITS FALSE NEIGHBOUR: 'it returns false'. Refute it at one input. -/
def fnDelimClassifiesEveryTokenWrong : ChangeSpec := { name := "fnDelimClassifiesEveryToken", fn := fun _ => fun
  | [d1, d2, d3] => { results := [.lit (.bool false)], args := [d1, d2, d3] }
  | _ => none }
def FnDelimClassifiesEveryTokenWrongFormAsk : Prop := fnDelimClassifiesEveryTokenRow.holds Tryf.pinned (OpenSpec.ofChange fnDelimClassifiesEveryTokenWrong)

/-- 'zzlaws_pkg_quote_e1.FnIssuedAcceptsExactly': WHATEVER THE INPUT: true; the input reads as it did. -/
def fnIssuedAcceptsExactlySpec : ChangeSpec := { name := "fnIssuedAcceptsExactly", fn := fun _ => fun
  | [d1, d2] => { results := [.lit (.bool true)], args := [d1, d2] }
  | _ => none }
def fnIssuedAcceptsExactlyRow : OpenClaim := { program := "qxb6001751afmt", sum := "7ca7bdb7c4f0b119a7077640c28bb141fc6a7ee1884a1652b32ba6244fb8c00b", func := "example.com/ratebook/ratebook/zzlaws_pkg_quote_e1.FnIssuedAcceptsExactly", spec := "fnIssuedAcceptsExactly", stops := ["fmt.errorf", "fmt.Sprintf"], inPlace := ["fmt.Sprintf", "fmt.errorf"], apart := false }
/-- NO THEOREM (fmt's text is open here; it may be false): for the released tool's asking of the row's closed facts alone. THE STATEMENT IS 'FnIssuedAcceptsExactlyToldSaid' (Qxb6001751aFmtCards.lean). -/
def FnIssuedAcceptsExactlyFormAsk : Prop := fnIssuedAcceptsExactlyRow.holds Tryf.pinned (OpenSpec.ofChange fnIssuedAcceptsExactlySpec)

/-- ITS FALSE NEIGHBOUR: 'it returns false'. Refute it at one input. -/
def fnIssuedAcceptsExactlyWrong : ChangeSpec := { name := "fnIssuedAcceptsExactly", fn := fun _ => fun
  | [d1, d2] => { results := [.lit (.bool false)], args := [d1, d2] }
  | _ => none }
def FnIssuedAcceptsExactlyWrongFormAsk : Prop := fnIssuedAcceptsExactlyRow.holds Tryf.pinned (OpenSpec.ofChange fnIssuedAcceptsExactlyWrong)

/-- 'zzlaws_pkg_quote_e1.FnIssuedOrderFree': WHATEVER THE INPUT: true; the input reads as it did. -/
def fnIssuedOrderFreeSpec : ChangeSpec := { name := "fnIssuedOrderFree", fn := fun _ => fun
  | [d1, d2] => { results := [.lit (.bool true)], args := [d1, d2] }
  | _ => none }
def fnIssuedOrderFreeRow : OpenClaim := { program := "qxb6001751afmt", sum := "7ca7bdb7c4f0b119a7077640c28bb141fc6a7ee1884a1652b32ba6244fb8c00b", func := "example.com/ratebook/ratebook/zzlaws_pkg_quote_e1.FnIssuedOrderFree", spec := "fnIssuedOrderFree", stops := ["fmt.errorf", "fmt.Sprintf"], inPlace := ["fmt.Sprintf", "fmt.errorf"], apart := false }
/-- NO THEOREM (fmt's text is open here; it may be false): for the released tool's asking of the row's closed facts alone. THE STATEMENT IS 'FnIssuedOrderFreeToldSaid' (Qxb6001751aFmtCards.lean). -/
def FnIssuedOrderFreeFormAsk : Prop := fnIssuedOrderFreeRow.holds Tryf.pinned (OpenSpec.ofChange fnIssuedOrderFreeSpec)

/-- ITS FALSE NEIGHBOUR: 'it returns false'. Refute it at one input. -/
def fnIssuedOrderFreeWrong : ChangeSpec := { name := "fnIssuedOrderFree", fn := fun _ => fun
  | [d1, d2] => { results := [.lit (.bool false)], args := [d1, d2] }
  | _ => none }
def FnIssuedOrderFreeWrongFormAsk : Prop := fnIssuedOrderFreeRow.holds Tryf.pinned (OpenSpec.ofChange fnIssuedOrderFreeWrong)

end Rows
end Go.Proofs.Qxb6001751aFmt
