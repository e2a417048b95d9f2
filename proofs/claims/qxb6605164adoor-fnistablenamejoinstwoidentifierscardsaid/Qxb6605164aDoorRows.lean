/-
  NARROWER THAN 'FOR EVERY INPUT', by the rows' own cells (each row's printed sentence says how): FnIsTableNameMatchesDottedGrammar: laid · FnIsTableNameJoinsTwoIdentifiers: laid · FnUnindexedMatchesRightScan: laid.
  DERIVED. THE GIVEN ROWS OF THIS SEAT. 3 by the template 'for every input the law returns true; each argument reads behind the call as it read before'; 0 by the template 'total and deterministic' (their statements: Qxb6605164aDoorTotals.lean).
  GIVEN WITH THE SEED: the statements are not yours to turn. If you find one false, say at which input.
  Laid BY PROGRAM, IN A SANDBOX (cutbox-rows.mjs): the forced cells as the released guide's own fill.sh prints them over the translation 4784247ccb720a4b… (all of the seat's roots in one cut). By AI agents, Wed Nov 11 2026. No macro, syntax, notation, axiom, sorry.
-/
import Derived.Test.Qxb6605164aDoorChecked
import GoSem.PinnedTables
import GoSem.Claim
import GoSem.ClaimJoined
import GoSem.ClaimMapViews
import Derived.JoinedTies
import Derived.KernelRfl
namespace Go.Proofs.Qxb6605164aDoor
/- THE CELL 'sum', in the pinned program and in every row, IS THE sha256 OF THE DUMP (.gsa) THAT Qxb6605164aDoorProg.lean LOADS. Nothing in Lean hashes anything: it is a label: what it is worth is what the hold of that sum in a sandbox is worth. -/
noncomputable def Tryd.pinned : Pinned := { name := "qxb6605164adoor", sum := "4784247ccb720a4b5c2422c1f0a4dfe7fb93d8180710e3aa1756f08224c62703", checked := Tryd.checked }
namespace Rows
def none {H : Type} : Left H := { results := [], args := [] }

/- WHAT THE LISTED PACKAGE-LEVEL VARIABLES READ AS WHEN THE CALL BEGINS. Each datum BY PROGRAM (the guide's laid-datum.mjs) off the statement by which the dump's own 'gosem.cut.vars' lays the variable. In a bare row this is a premise. The card (Qxb6605164aDoorCards.lean) ties it to the program's text. -/
def laid_unicode_utf8_acceptRanges {H : Type} : DataW H := .agg [.agg [.lit (.int .u8 128), .lit (.int .u8 191)], .agg [.lit (.int .u8 160), .lit (.int .u8 191)], .agg [.lit (.int .u8 128), .lit (.int .u8 159)], .agg [.lit (.int .u8 144), .lit (.int .u8 191)], .agg [.lit (.int .u8 128), .lit (.int .u8 143)], .agg [.lit (.int .u8 0), .lit (.int .u8 0)], .agg [.lit (.int .u8 0), .lit (.int .u8 0)], .agg [.lit (.int .u8 0), .lit (.int .u8 0)], .agg [.lit (.int .u8 0), .lit (.int .u8 0)], .agg [.lit (.int .u8 0), .lit (.int .u8 0)], .agg [.lit (.int .u8 0), .lit (.int .u8 0)], .agg [.lit (.int .u8 0), .lit (.int .u8 0)], .agg [.lit (.int .u8 0), .lit (.int .u8 0)], .agg [.lit (.int .u8 0), .lit (.int .u8 0)], .agg [.lit (.int .u8 0), .lit (.int .u8 0)], .agg [.lit (.int .u8 0), .lit (.int .u8 0)]]
/-- One of Go's own tables, pinned by name: the form's constant. -/
def laid_unicode_utf8_first : DataW Unit := Go.Pinned.utf8First

/-- 'zzlaws_root_b1.FnIsTableNameMatchesDottedGrammar': WHATEVER THE INPUT: true; the input reads as it did. -/
def fnIsTableNameMatchesDottedGrammarSpec : ChangeSpec := { name := "fnIsTableNameMatchesDottedGrammar", fn := fun _ => fun
  | [d] => { results := [.lit (.bool true)], args := [d] }
  | _ => none }
def fnIsTableNameMatchesDottedGrammarRow : OpenClaim := { program := "qxb6605164adoor", sum := "4784247ccb720a4b5c2422c1f0a4dfe7fb93d8180710e3aa1756f08224c62703", func := "example.com/sieveline/sieveline/zzlaws_root_b1.FnIsTableNameMatchesDottedGrammar", spec := "fnIsTableNameMatchesDottedGrammar", inPlace := ["internal/bytealg.CountString", "internal/bytealg.IndexByteString", "internal/bytealg.IndexString"], named := ["unicode/utf8.first", "unicode/utf8.acceptRanges", "internal/bytealg.MaxLen"], apart := false, laid := [("unicode/utf8.acceptRanges", laid_unicode_utf8_acceptRanges), ("unicode/utf8.first", laid_unicode_utf8_first)] }
def FnIsTableNameMatchesDottedGrammarSaid : Prop := fnIsTableNameMatchesDottedGrammarRow.holds Tryd.pinned (OpenSpec.ofChange fnIsTableNameMatchesDottedGrammarSpec)

/-- ITS FALSE NEIGHBOUR: 'it returns false'. Refute it at one input. -/
def fnIsTableNameMatchesDottedGrammarWrong : ChangeSpec := { name := "fnIsTableNameMatchesDottedGrammar", fn := fun _ => fun
  | [d] => { results := [.lit (.bool false)], args := [d] }
  | _ => none }
def FnIsTableNameMatchesDottedGrammarWrongFalsely : Prop := fnIsTableNameMatchesDottedGrammarRow.holds Tryd.pinned (OpenSpec.ofChange fnIsTableNameMatchesDottedGrammarWrong)

/-- 'zzlaws_root_b1.FnIsTableNameJoinsTwoIdentifiers': WHATEVER THE INPUT: true; the input reads as it did. -/
def fnIsTableNameJoinsTwoIdentifiersSpec : ChangeSpec := { name := "fnIsTableNameJoinsTwoIdentifiers", fn := fun _ => fun
  | [d1, d2] => { results := [.lit (.bool true)], args := [d1, d2] }
  | _ => none }
def fnIsTableNameJoinsTwoIdentifiersRow : OpenClaim := { program := "qxb6605164adoor", sum := "4784247ccb720a4b5c2422c1f0a4dfe7fb93d8180710e3aa1756f08224c62703", func := "example.com/sieveline/sieveline/zzlaws_root_b1.FnIsTableNameJoinsTwoIdentifiers", spec := "fnIsTableNameJoinsTwoIdentifiers", inPlace := ["internal/bytealg.CountString", "internal/bytealg.IndexByteString", "internal/bytealg.IndexString"], named := ["unicode/utf8.first", "unicode/utf8.acceptRanges", "internal/bytealg.MaxLen"], apart := false, laid := [("unicode/utf8.acceptRanges", laid_unicode_utf8_acceptRanges), ("unicode/utf8.first", laid_unicode_utf8_first)] }
def FnIsTableNameJoinsTwoIdentifiersSaid : Prop := fnIsTableNameJoinsTwoIdentifiersRow.holds Tryd.pinned (OpenSpec.ofChange fnIsTableNameJoinsTwoIdentifiersSpec)

/-- ITS FALSE NEIGHBOUR: 'it returns false'. Refute it at one input. -/
def fnIsTableNameJoinsTwoIdentifiersWrong : ChangeSpec := { name := "fnIsTableNameJoinsTwoIdentifiers", fn := fun _ => fun
  | [d1, d2] => { results := [.lit (.bool false)], args := [d1, d2] }
  | _ => none }
def FnIsTableNameJoinsTwoIdentifiersWrongFalsely : Prop := fnIsTableNameJoinsTwoIdentifiersRow.holds Tryd.pinned (OpenSpec.ofChange fnIsTableNameJoinsTwoIdentifiersWrong)

/-- 'zzlaws_root_b1.FnUnindexedMatchesRightScan': WHATEVER THE INPUT: true; the input reads as it did. -/
def fnUnindexedMatchesRightScanSpec : ChangeSpec := { name := "fnUnindexedMatchesRightScan", fn := fun _ => fun
  | [d] => { results := [.lit (.bool true)], args := [d] }
  | _ => none }
def fnUnindexedMatchesRightScanRow : OpenClaim := { program := "qxb6605164adoor", sum := "4784247ccb720a4b5c2422c1f0a4dfe7fb93d8180710e3aa1756f08224c62703", func := "example.com/sieveline/sieveline/zzlaws_root_b1.FnUnindexedMatchesRightScan", spec := "fnUnindexedMatchesRightScan", inPlace := ["internal/bytealg.IndexByteString", "internal/bytealg.IndexString"], named := ["internal/bytealg.MaxLen", "unicode/utf8.first", "unicode/utf8.acceptRanges"], apart := false, laid := [("unicode/utf8.acceptRanges", laid_unicode_utf8_acceptRanges), ("unicode/utf8.first", laid_unicode_utf8_first)] }
def FnUnindexedMatchesRightScanSaid : Prop := fnUnindexedMatchesRightScanRow.holds Tryd.pinned (OpenSpec.ofChange fnUnindexedMatchesRightScanSpec)

/-- ITS FALSE NEIGHBOUR: 'it returns false'. Refute it at one input. -/
def fnUnindexedMatchesRightScanWrong : ChangeSpec := { name := "fnUnindexedMatchesRightScan", fn := fun _ => fun
  | [d] => { results := [.lit (.bool false)], args := [d] }
  | _ => none }
def FnUnindexedMatchesRightScanWrongFalsely : Prop := fnUnindexedMatchesRightScanRow.holds Tryd.pinned (OpenSpec.ofChange fnUnindexedMatchesRightScanWrong)

end Rows
end Go.Proofs.Qxb6605164aDoor
