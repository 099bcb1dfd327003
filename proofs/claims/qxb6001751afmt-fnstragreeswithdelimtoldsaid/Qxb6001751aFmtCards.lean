/-
  DERIVED. GIVEN WITH THE SEED: THE CARDS: each row of Qxb6001751aFmtRows.lean that lists a variable, with what it lists TIED to the program's text (the seventh form; the later family's looks); each row that meets fmt, with fmt's text TOLD by the authors' own Lean function (tested against real Go, not proved from fmt's source: count such statements apart). THE CARD IS WHAT COUNTS. Prove the row's statement (the work); the ties are given (Qxb6001751aFmtTie.lean); close each card by the builder's one call (the guide's Derived/Test/ToyasCard.lean, 'card_holds'). Laid BY PROGRAM, IN A SANDBOX (cutbox-door.mjs). By AI agents, Wed Nov 11 2026. No macro, syntax, notation, axiom, sorry.
-/
import Derived.Test.Qxb6001751aFmtRows
import GoSem.ClaimSeven
namespace Go.Proofs.Qxb6001751aFmt
namespace Rows

/-- THE TOLD CARD OF 'zzlaws_pkg_quote_e1.FnBooleanReadsWrittenWord'. -/
def fnBooleanReadsWrittenWordCard : Claim7 := { stood := { row := fnBooleanReadsWrittenWordRow, standIns := [], harness := (true, "b0f5369bc41e8c025074d100126a70e9a5e26a755939f9d4efb9b150c78545e6"), looks := false }, told := true, goes := false }
def FnBooleanReadsWrittenWordToldSaid : Prop := Claim7.holds Tryf.pinned (.plain (OpenSpec.ofChange fnBooleanReadsWrittenWordSpec)) fnBooleanReadsWrittenWordCard
/-- ITS FALSE NEIGHBOUR. Refute it at one input. -/
def FnBooleanReadsWrittenWordToldWrongFalsely : Prop := Claim7.holds Tryf.pinned (.plain (OpenSpec.ofChange fnBooleanReadsWrittenWordWrong)) fnBooleanReadsWrittenWordCard

/-- THE TOLD CARD OF 'zzlaws_pkg_quote_e1.FnBooleanAgreesWithDelim'. -/
def fnBooleanAgreesWithDelimCard : Claim7 := { stood := { row := fnBooleanAgreesWithDelimRow, standIns := [], harness := (true, "b0f5369bc41e8c025074d100126a70e9a5e26a755939f9d4efb9b150c78545e6"), looks := false }, told := true, goes := false }
def FnBooleanAgreesWithDelimToldSaid : Prop := Claim7.holds Tryf.pinned (.plain (OpenSpec.ofChange fnBooleanAgreesWithDelimSpec)) fnBooleanAgreesWithDelimCard
/-- ITS FALSE NEIGHBOUR. Refute it at one input. -/
def FnBooleanAgreesWithDelimToldWrongFalsely : Prop := Claim7.holds Tryf.pinned (.plain (OpenSpec.ofChange fnBooleanAgreesWithDelimWrong)) fnBooleanAgreesWithDelimCard

/-- THE TOLD CARD OF 'zzlaws_pkg_quote_e1.FnStrReadsWrittenString'. -/
def fnStrReadsWrittenStringCard : Claim7 := { stood := { row := fnStrReadsWrittenStringRow, standIns := [], harness := (true, "b0f5369bc41e8c025074d100126a70e9a5e26a755939f9d4efb9b150c78545e6"), looks := false }, told := true, goes := false }
def FnStrReadsWrittenStringToldSaid : Prop := Claim7.holds Tryf.pinned (.plain (OpenSpec.ofChange fnStrReadsWrittenStringSpec)) fnStrReadsWrittenStringCard
/-- ITS FALSE NEIGHBOUR. Refute it at one input. -/
def FnStrReadsWrittenStringToldWrongFalsely : Prop := Claim7.holds Tryf.pinned (.plain (OpenSpec.ofChange fnStrReadsWrittenStringWrong)) fnStrReadsWrittenStringCard

/-- THE TOLD CARD OF 'zzlaws_pkg_quote_e1.FnStrAgreesWithDelim'. -/
def fnStrAgreesWithDelimCard : Claim7 := { stood := { row := fnStrAgreesWithDelimRow, standIns := [], harness := (true, "b0f5369bc41e8c025074d100126a70e9a5e26a755939f9d4efb9b150c78545e6"), looks := false }, told := true, goes := false }
def FnStrAgreesWithDelimToldSaid : Prop := Claim7.holds Tryf.pinned (.plain (OpenSpec.ofChange fnStrAgreesWithDelimSpec)) fnStrAgreesWithDelimCard
/-- ITS FALSE NEIGHBOUR. Refute it at one input. -/
def FnStrAgreesWithDelimToldWrongFalsely : Prop := Claim7.holds Tryf.pinned (.plain (OpenSpec.ofChange fnStrAgreesWithDelimWrong)) fnStrAgreesWithDelimCard

/-- THE TOLD CARD OF 'zzlaws_pkg_quote_e1.FnDelimReadsWrittenBracket'. -/
def fnDelimReadsWrittenBracketCard : Claim7 := { stood := { row := fnDelimReadsWrittenBracketRow, standIns := [], harness := (true, "b0f5369bc41e8c025074d100126a70e9a5e26a755939f9d4efb9b150c78545e6"), looks := false }, told := true, goes := false }
def FnDelimReadsWrittenBracketToldSaid : Prop := Claim7.holds Tryf.pinned (.plain (OpenSpec.ofChange fnDelimReadsWrittenBracketSpec)) fnDelimReadsWrittenBracketCard
/-- ITS FALSE NEIGHBOUR. Refute it at one input. -/
def FnDelimReadsWrittenBracketToldWrongFalsely : Prop := Claim7.holds Tryf.pinned (.plain (OpenSpec.ofChange fnDelimReadsWrittenBracketWrong)) fnDelimReadsWrittenBracketCard

/-- THE TOLD CARD OF 'zzlaws_pkg_quote_e1.FnDelimClassifiesEveryToken'. -/
def fnDelimClassifiesEveryTokenCard : Claim7 := { stood := { row := fnDelimClassifiesEveryTokenRow, standIns := [], harness := (true, "b0f5369bc41e8c025074d100126a70e9a5e26a755939f9d4efb9b150c78545e6"), looks := false }, told := true, goes := false }
def FnDelimClassifiesEveryTokenToldSaid : Prop := Claim7.holds Tryf.pinned (.plain (OpenSpec.ofChange fnDelimClassifiesEveryTokenSpec)) fnDelimClassifiesEveryTokenCard
/-- ITS FALSE NEIGHBOUR. Refute it at one input. -/
def FnDelimClassifiesEveryTokenToldWrongFalsely : Prop := Claim7.holds Tryf.pinned (.plain (OpenSpec.ofChange fnDelimClassifiesEveryTokenWrong)) fnDelimClassifiesEveryTokenCard

/-- THE TOLD CARD OF 'zzlaws_pkg_quote_e1.FnIssuedAcceptsExactly'. -/
def fnIssuedAcceptsExactlyCard : Claim7 := { stood := { row := fnIssuedAcceptsExactlyRow, standIns := [], harness := (true, "b0f5369bc41e8c025074d100126a70e9a5e26a755939f9d4efb9b150c78545e6"), looks := false }, told := true, goes := false }
def FnIssuedAcceptsExactlyToldSaid : Prop := Claim7.holds Tryf.pinned (.plain (OpenSpec.ofChange fnIssuedAcceptsExactlySpec)) fnIssuedAcceptsExactlyCard
/-- ITS FALSE NEIGHBOUR. Refute it at one input. -/
def FnIssuedAcceptsExactlyToldWrongFalsely : Prop := Claim7.holds Tryf.pinned (.plain (OpenSpec.ofChange fnIssuedAcceptsExactlyWrong)) fnIssuedAcceptsExactlyCard

/-- THE TOLD CARD OF 'zzlaws_pkg_quote_e1.FnIssuedOrderFree'. -/
def fnIssuedOrderFreeCard : Claim7 := { stood := { row := fnIssuedOrderFreeRow, standIns := [], harness := (true, "b0f5369bc41e8c025074d100126a70e9a5e26a755939f9d4efb9b150c78545e6"), looks := false }, told := true, goes := false }
def FnIssuedOrderFreeToldSaid : Prop := Claim7.holds Tryf.pinned (.plain (OpenSpec.ofChange fnIssuedOrderFreeSpec)) fnIssuedOrderFreeCard
/-- ITS FALSE NEIGHBOUR. Refute it at one input. -/
def FnIssuedOrderFreeToldWrongFalsely : Prop := Claim7.holds Tryf.pinned (.plain (OpenSpec.ofChange fnIssuedOrderFreeWrong)) fnIssuedOrderFreeCard
end Rows
end Go.Proofs.Qxb6001751aFmt
