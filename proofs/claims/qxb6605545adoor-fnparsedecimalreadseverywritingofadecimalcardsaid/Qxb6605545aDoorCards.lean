/-
  DERIVED. GIVEN WITH THE SEED: THE CARDS: each row of Qxb6605545aDoorRows.lean that lists a variable, with what it lists TIED to the program's text (the seventh form; the later family's looks); each row that meets fmt, with fmt's text TOLD by the authors' own Lean function (tested against real Go, not proved from fmt's source: count such statements apart). THE CARD IS WHAT COUNTS. Prove the row's statement (the work); the ties are given (Qxb6605545aDoorTie.lean); close each card by the builder's one call (the guide's Derived/Test/ToyasCard.lean, 'card_holds'). Laid BY PROGRAM, IN A SANDBOX (cutbox-door.mjs). By AI agents, Wed Nov 11 2026. No macro, syntax, notation, axiom, sorry.
-/
import Derived.Test.Qxb6605545aDoorRows
import GoSem.ClaimSeven
namespace Go.Proofs.Qxb6605545aDoor
namespace Rows

/-- THE TIED CARD OF 'zzlaws_decision_b1.FnParseDecimalMatchesScanner'. -/
def fnParseDecimalMatchesScannerCard : Claim7 := { stood := { row := fnParseDecimalMatchesScannerRow, standIns := [], harness := (true, "7e4bfaba89f6021131c6fee233ac502c554175d118907fea27a49624687e6628"), looks := false }, kinds := [], alts := [], laidByText := true, laidKinds := [.data, .pinned], laidTests := true, laidLooks := .later }
def FnParseDecimalMatchesScannerCardSaid : Prop := Claim7.holds Tryd.pinned (.plain (OpenSpec.ofChange fnParseDecimalMatchesScannerSpec)) fnParseDecimalMatchesScannerCard

/-- THE TIED CARD OF 'zzlaws_decision_b1.FnParseDecimalReadsEveryWritingOfADecimal'. -/
def fnParseDecimalReadsEveryWritingOfADecimalCard : Claim7 := { stood := { row := fnParseDecimalReadsEveryWritingOfADecimalRow, standIns := [], harness := (true, "7e4bfaba89f6021131c6fee233ac502c554175d118907fea27a49624687e6628"), looks := false }, kinds := [], alts := [], laidByText := true, laidKinds := [.data, .pinned], laidTests := true, laidLooks := .later }
def FnParseDecimalReadsEveryWritingOfADecimalCardSaid : Prop := Claim7.holds Tryd.pinned (.plain (OpenSpec.ofChange fnParseDecimalReadsEveryWritingOfADecimalSpec)) fnParseDecimalReadsEveryWritingOfADecimalCard

/-- THE TIED CARD OF 'zzlaws_decision_b1.FnShiftMovesThePointExp'. -/
def fnShiftMovesThePointExpCard : Claim7 := { stood := { row := fnShiftMovesThePointExpRow, standIns := [], harness := (true, "7e4bfaba89f6021131c6fee233ac502c554175d118907fea27a49624687e6628"), looks := false }, kinds := [], alts := [], laidByText := true, laidKinds := [.data, .pinned], laidTests := true, laidLooks := .later }
def FnShiftMovesThePointExpCardSaid : Prop := Claim7.holds Tryd.pinned (.plain (OpenSpec.ofChange fnShiftMovesThePointExpSpec)) fnShiftMovesThePointExpCard

/-- THE TIED CARD OF 'zzlaws_decision_b1.FnShiftRoundTripsAndAgreesWithParse'. -/
def fnShiftRoundTripsAndAgreesWithParseCard : Claim7 := { stood := { row := fnShiftRoundTripsAndAgreesWithParseRow, standIns := [], harness := (true, "7e4bfaba89f6021131c6fee233ac502c554175d118907fea27a49624687e6628"), looks := false }, kinds := [], alts := [], laidByText := true, laidKinds := [.data, .pinned], laidTests := true, laidLooks := .later }
def FnShiftRoundTripsAndAgreesWithParseCardSaid : Prop := Claim7.holds Tryd.pinned (.plain (OpenSpec.ofChange fnShiftRoundTripsAndAgreesWithParseSpec)) fnShiftRoundTripsAndAgreesWithParseCard
end Rows
end Go.Proofs.Qxb6605545aDoor
