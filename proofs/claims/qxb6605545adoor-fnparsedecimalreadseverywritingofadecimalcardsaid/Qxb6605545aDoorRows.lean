/-
  NARROWER THAN 'FOR EVERY INPUT', by the rows' own cells (each row's printed sentence says how): FnParseDecimalMatchesScanner: laid · FnParseDecimalReadsEveryWritingOfADecimal: laid · FnShiftMovesThePointExp: laid · FnShiftRoundTripsAndAgreesWithParse: laid.
  DERIVED. THE GIVEN ROWS OF THIS SEAT. 4 by the template 'for every input the law returns true; each argument reads behind the call as it read before'; 0 by the template 'total and deterministic' (their statements: Qxb6605545aDoorTotals.lean).
  GIVEN WITH THE SEED: the statements are not yours to turn. If you find one false, say at which input.
  Laid BY PROGRAM, IN A SANDBOX (cutbox-rows.mjs): the forced cells as the released guide's own fill.sh prints them over the translation 22f4558f10f1c481… (all of the seat's roots in one cut). By AI agents, Wed Nov 11 2026. No macro, syntax, notation, axiom, sorry.
-/
import Derived.Test.Qxb6605545aDoorChecked
import GoSem.PinnedTables
import GoSem.Claim
import GoSem.ClaimJoined
import GoSem.ClaimMapViews
import Derived.JoinedTies
import Derived.KernelRfl
namespace Go.Proofs.Qxb6605545aDoor
/- THE CELL 'sum', in the pinned program and in every row, IS THE sha256 OF THE DUMP (.gsa) THAT Qxb6605545aDoorProg.lean LOADS. Nothing in Lean hashes anything: it is a label: what it is worth is what the hold of that sum in a sandbox is worth. -/
noncomputable def Tryd.pinned : Pinned := { name := "qxb6605545adoor", sum := "22f4558f10f1c48155934cdf835a695e01333748985a8ab43ce9c87b6be415ad", checked := Tryd.checked }
namespace Rows
def none {H : Type} : Left H := { results := [], args := [] }

/- WHAT THE LISTED PACKAGE-LEVEL VARIABLES READ AS WHEN THE CALL BEGINS. Each datum BY PROGRAM (the guide's laid-datum.mjs) off the statement by which the dump's own 'gosem.cut.vars' lays the variable. In a bare row this is a premise. The card (Qxb6605545aDoorCards.lean) ties it to the program's text. -/
def laid_unicode_utf8_acceptRanges {H : Type} : DataW H := .agg [.agg [.lit (.int .u8 128), .lit (.int .u8 191)], .agg [.lit (.int .u8 160), .lit (.int .u8 191)], .agg [.lit (.int .u8 128), .lit (.int .u8 159)], .agg [.lit (.int .u8 144), .lit (.int .u8 191)], .agg [.lit (.int .u8 128), .lit (.int .u8 143)], .agg [.lit (.int .u8 0), .lit (.int .u8 0)], .agg [.lit (.int .u8 0), .lit (.int .u8 0)], .agg [.lit (.int .u8 0), .lit (.int .u8 0)], .agg [.lit (.int .u8 0), .lit (.int .u8 0)], .agg [.lit (.int .u8 0), .lit (.int .u8 0)], .agg [.lit (.int .u8 0), .lit (.int .u8 0)], .agg [.lit (.int .u8 0), .lit (.int .u8 0)], .agg [.lit (.int .u8 0), .lit (.int .u8 0)], .agg [.lit (.int .u8 0), .lit (.int .u8 0)], .agg [.lit (.int .u8 0), .lit (.int .u8 0)], .agg [.lit (.int .u8 0), .lit (.int .u8 0)]]
/-- One of Go's own tables, pinned by name: the form's constant. -/
def laid_unicode_utf8_first : DataW Unit := Go.Pinned.utf8First

/-- 'zzlaws_decision_b1.FnParseDecimalMatchesScanner': WHATEVER THE INPUT: true; the input reads as it did. -/
def fnParseDecimalMatchesScannerSpec : ChangeSpec := { name := "fnParseDecimalMatchesScanner", fn := fun _ => fun
  | [d] => { results := [.lit (.bool true)], args := [d] }
  | _ => none }
def fnParseDecimalMatchesScannerRow : OpenClaim := { program := "qxb6605545adoor", sum := "22f4558f10f1c48155934cdf835a695e01333748985a8ab43ce9c87b6be415ad", func := "example.com/policy-to-decision/policy-to-decision/zzlaws_decision_b1.FnParseDecimalMatchesScanner", spec := "fnParseDecimalMatchesScanner", inPlace := ["internal/bytealg.IndexByteString", "internal/bytealg.IndexString"], named := ["internal/bytealg.MaxLen", "unicode/utf8.first", "unicode/utf8.acceptRanges"], apart := false, laid := [("unicode/utf8.acceptRanges", laid_unicode_utf8_acceptRanges), ("unicode/utf8.first", laid_unicode_utf8_first)] }
def FnParseDecimalMatchesScannerSaid : Prop := fnParseDecimalMatchesScannerRow.holds Tryd.pinned (OpenSpec.ofChange fnParseDecimalMatchesScannerSpec)

/-- ITS FALSE NEIGHBOUR: 'it returns false'. Refute it at one input. -/
def fnParseDecimalMatchesScannerWrong : ChangeSpec := { name := "fnParseDecimalMatchesScanner", fn := fun _ => fun
  | [d] => { results := [.lit (.bool false)], args := [d] }
  | _ => none }
def FnParseDecimalMatchesScannerWrongFalsely : Prop := fnParseDecimalMatchesScannerRow.holds Tryd.pinned (OpenSpec.ofChange fnParseDecimalMatchesScannerWrong)

/-- 'zzlaws_decision_b1.FnParseDecimalReadsEveryWritingOfADecimal': WHATEVER THE INPUT: true; the input reads as it did. -/
def fnParseDecimalReadsEveryWritingOfADecimalSpec : ChangeSpec := { name := "fnParseDecimalReadsEveryWritingOfADecimal", fn := fun _ => fun
  | [d1, d2, d3] => { results := [.lit (.bool true)], args := [d1, d2, d3] }
  | _ => none }
def fnParseDecimalReadsEveryWritingOfADecimalRow : OpenClaim := { program := "qxb6605545adoor", sum := "22f4558f10f1c48155934cdf835a695e01333748985a8ab43ce9c87b6be415ad", func := "example.com/policy-to-decision/policy-to-decision/zzlaws_decision_b1.FnParseDecimalReadsEveryWritingOfADecimal", spec := "fnParseDecimalReadsEveryWritingOfADecimal", inPlace := ["internal/bytealg.IndexByteString", "internal/bytealg.IndexString"], named := ["internal/bytealg.MaxLen", "unicode/utf8.first", "unicode/utf8.acceptRanges"], apart := false, laid := [("unicode/utf8.acceptRanges", laid_unicode_utf8_acceptRanges), ("unicode/utf8.first", laid_unicode_utf8_first)] }
def FnParseDecimalReadsEveryWritingOfADecimalSaid : Prop := fnParseDecimalReadsEveryWritingOfADecimalRow.holds Tryd.pinned (OpenSpec.ofChange fnParseDecimalReadsEveryWritingOfADecimalSpec)

/-- ITS FALSE NEIGHBOUR: 'it returns false'. Refute it at one input. -/
def fnParseDecimalReadsEveryWritingOfADecimalWrong : ChangeSpec := { name := "fnParseDecimalReadsEveryWritingOfADecimal", fn := fun _ => fun
  | [d1, d2, d3] => { results := [.lit (.bool false)], args := [d1, d2, d3] }
  | _ => none }
def FnParseDecimalReadsEveryWritingOfADecimalWrongFalsely : Prop := fnParseDecimalReadsEveryWritingOfADecimalRow.holds Tryd.pinned (OpenSpec.ofChange fnParseDecimalReadsEveryWritingOfADecimalWrong)

/-- 'zzlaws_decision_b1.FnShiftMovesThePointExp': WHATEVER THE INPUT: true; the input reads as it did. -/
def fnShiftMovesThePointExpSpec : ChangeSpec := { name := "fnShiftMovesThePointExp", fn := fun _ => fun
  | [d1, d2, d3, d4] => { results := [.lit (.bool true)], args := [d1, d2, d3, d4] }
  | _ => none }
def fnShiftMovesThePointExpRow : OpenClaim := { program := "qxb6605545adoor", sum := "22f4558f10f1c48155934cdf835a695e01333748985a8ab43ce9c87b6be415ad", func := "example.com/policy-to-decision/policy-to-decision/zzlaws_decision_b1.FnShiftMovesThePointExp", spec := "fnShiftMovesThePointExp", inPlace := ["internal/abi.NoEscape", "internal/bytealg.MakeNoZero", "internal/bytealg.IndexByteString", "internal/bytealg.IndexString"], named := ["unicode/utf8.first", "unicode/utf8.acceptRanges", "internal/bytealg.MaxLen"], apart := false, laid := [("unicode/utf8.acceptRanges", laid_unicode_utf8_acceptRanges), ("unicode/utf8.first", laid_unicode_utf8_first)] }
def FnShiftMovesThePointExpSaid : Prop := fnShiftMovesThePointExpRow.holds Tryd.pinned (OpenSpec.ofChange fnShiftMovesThePointExpSpec)

/-- ITS FALSE NEIGHBOUR: 'it returns false'. Refute it at one input. -/
def fnShiftMovesThePointExpWrong : ChangeSpec := { name := "fnShiftMovesThePointExp", fn := fun _ => fun
  | [d1, d2, d3, d4] => { results := [.lit (.bool false)], args := [d1, d2, d3, d4] }
  | _ => none }
def FnShiftMovesThePointExpWrongFalsely : Prop := fnShiftMovesThePointExpRow.holds Tryd.pinned (OpenSpec.ofChange fnShiftMovesThePointExpWrong)

/-- 'zzlaws_decision_b1.FnShiftRoundTripsAndAgreesWithParse': WHATEVER THE INPUT: true; the input reads as it did. -/
def fnShiftRoundTripsAndAgreesWithParseSpec : ChangeSpec := { name := "fnShiftRoundTripsAndAgreesWithParse", fn := fun _ => fun
  | [d1, d2, d3, d4] => { results := [.lit (.bool true)], args := [d1, d2, d3, d4] }
  | _ => none }
def fnShiftRoundTripsAndAgreesWithParseRow : OpenClaim := { program := "qxb6605545adoor", sum := "22f4558f10f1c48155934cdf835a695e01333748985a8ab43ce9c87b6be415ad", func := "example.com/policy-to-decision/policy-to-decision/zzlaws_decision_b1.FnShiftRoundTripsAndAgreesWithParse", spec := "fnShiftRoundTripsAndAgreesWithParse", inPlace := ["internal/abi.NoEscape", "internal/bytealg.MakeNoZero", "internal/bytealg.IndexByteString", "internal/bytealg.IndexString"], named := ["unicode/utf8.first", "unicode/utf8.acceptRanges", "internal/bytealg.MaxLen"], apart := false, laid := [("unicode/utf8.acceptRanges", laid_unicode_utf8_acceptRanges), ("unicode/utf8.first", laid_unicode_utf8_first)] }
def FnShiftRoundTripsAndAgreesWithParseSaid : Prop := fnShiftRoundTripsAndAgreesWithParseRow.holds Tryd.pinned (OpenSpec.ofChange fnShiftRoundTripsAndAgreesWithParseSpec)

/-- ITS FALSE NEIGHBOUR: 'it returns false'. Refute it at one input. -/
def fnShiftRoundTripsAndAgreesWithParseWrong : ChangeSpec := { name := "fnShiftRoundTripsAndAgreesWithParse", fn := fun _ => fun
  | [d1, d2, d3, d4] => { results := [.lit (.bool false)], args := [d1, d2, d3, d4] }
  | _ => none }
def FnShiftRoundTripsAndAgreesWithParseWrongFalsely : Prop := fnShiftRoundTripsAndAgreesWithParseRow.holds Tryd.pinned (OpenSpec.ofChange fnShiftRoundTripsAndAgreesWithParseWrong)

end Rows
end Go.Proofs.Qxb6605545aDoor
