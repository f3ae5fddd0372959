/-
  DERIVED. GIVEN WITH THE SEED: THE CARDS: each row of Qxb6628947aFmtRows.lean that lists a variable, with what it lists TIED to the program's text (the seventh form; the later family's looks); each row that meets fmt, with fmt's text TOLD by the authors' own Lean function (tested against real Go, not proved from fmt's source: count such statements apart). THE CARD IS WHAT COUNTS. Prove the row's statement (the work); the ties are given (Qxb6628947aFmtTie.lean); close each card by the builder's one call (the guide's Derived/Test/ToyasCard.lean, 'card_holds'). Laid BY PROGRAM, IN A SANDBOX (cutbox-door.mjs). By AI agents, Wed Nov 11 2026. No macro, syntax, notation, axiom, sorry.
-/
import Derived.Test.Qxb6628947aFmtRows
import GoSem.ClaimSeven
namespace Go.Proofs.Qxb6628947aFmt
namespace Rows

/-- THE TOLD AND TIED CARD OF 'zzlaws_root_b1.FnParseReleaseByLastDigit'. -/
def fnParseReleaseByLastDigitCard : Claim7 := { stood := { row := fnParseReleaseByLastDigitRow, standIns := [], harness := (true, "e1a05d87eccc333d1e3c901fc45dce38c296a91bd52694146c44760f0920ac98"), looks := true }, told := true, laidByText := true, laidKinds := [.data, .data, .data, .called, .called], laidTests := true, laidLooks := .later, goes := false }
def FnParseReleaseByLastDigitToldSaid : Prop := Claim7.holds Tryf.pinned (.plain (OpenSpec.ofChange fnParseReleaseByLastDigitSpec)) fnParseReleaseByLastDigitCard
/-- ITS FALSE NEIGHBOUR. Refute it at one input. -/
def FnParseReleaseByLastDigitToldWrongFalsely : Prop := Claim7.holds Tryf.pinned (.plain (OpenSpec.ofChange fnParseReleaseByLastDigitWrong)) fnParseReleaseByLastDigitCard

/-- THE TOLD AND TIED CARD OF 'zzlaws_root_b1.FnParseReleaseOrderAgreesWithText'. -/
def fnParseReleaseOrderAgreesWithTextCard : Claim7 := { stood := { row := fnParseReleaseOrderAgreesWithTextRow, standIns := [], harness := (true, "e1a05d87eccc333d1e3c901fc45dce38c296a91bd52694146c44760f0920ac98"), looks := true }, told := true, laidByText := true, laidKinds := [.data, .data, .data, .called, .called], laidTests := true, laidLooks := .later, goes := false }
def FnParseReleaseOrderAgreesWithTextToldSaid : Prop := Claim7.holds Tryf.pinned (.plain (OpenSpec.ofChange fnParseReleaseOrderAgreesWithTextSpec)) fnParseReleaseOrderAgreesWithTextCard
/-- ITS FALSE NEIGHBOUR. Refute it at one input. -/
def FnParseReleaseOrderAgreesWithTextToldWrongFalsely : Prop := Claim7.holds Tryf.pinned (.plain (OpenSpec.ofChange fnParseReleaseOrderAgreesWithTextWrong)) fnParseReleaseOrderAgreesWithTextCard
end Rows
end Go.Proofs.Qxb6628947aFmt
