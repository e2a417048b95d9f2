/-
  DERIVED. GIVEN WITH THE SEED: THE CARDS: each row of Qxb6606252aFmtRows.lean that lists a variable, with what it lists TIED to the program's text (the seventh form; the later family's looks); each row that meets fmt, with fmt's text TOLD by the authors' own Lean function (tested against real Go, not proved from fmt's source: count such statements apart). THE CARD IS WHAT COUNTS. Prove the row's statement (the work); the ties are given (Qxb6606252aFmtTie.lean); close each card by the builder's one call (the guide's Derived/Test/ToyasCard.lean, 'card_holds'). Laid BY PROGRAM, IN A SANDBOX (cutbox-door.mjs). By AI agents, Wed Nov 11 2026. No macro, syntax, notation, axiom, sorry.
-/
import Derived.Test.Qxb6606252aFmtRows
import GoSem.ClaimSeven
namespace Go.Proofs.Qxb6606252aFmt
namespace Rows

/-- THE TOLD AND TIED CARD OF 'zzlaws_tuple_b1.FnObjectStringParsesBack'. -/
def fnObjectStringParsesBackCard : Claim7 := { stood := { row := fnObjectStringParsesBackRow, standIns := [], harness := (true, "8f1c019020101a5c89101f27ac8c9eaa578b6c87dd52c6aa88544ab53a8a9558"), looks := false }, told := true, laidByText := true, laidKinds := [.data, .listed, .listed, .data, .wider, .pinned, .pinned, .pinned, .pinned, .pinned, .pinned], laidTests := true, laidLooks := .later, goes := false }
def FnObjectStringParsesBackToldSaid : Prop := Claim7.holds Tryf.pinned (.plain (OpenSpec.ofChange fnObjectStringParsesBackSpec)) fnObjectStringParsesBackCard
/-- ITS FALSE NEIGHBOUR. Refute it at one input. -/
def FnObjectStringParsesBackToldWrongFalsely : Prop := Claim7.holds Tryf.pinned (.plain (OpenSpec.ofChange fnObjectStringParsesBackWrong)) fnObjectStringParsesBackCard

/-- THE TOLD AND TIED CARD OF 'zzlaws_tuple_b1.FnCheckNameMatchesRules'. -/
def fnCheckNameMatchesRulesCard : Claim7 := { stood := { row := fnCheckNameMatchesRulesRow, standIns := [], harness := (true, "8f1c019020101a5c89101f27ac8c9eaa578b6c87dd52c6aa88544ab53a8a9558"), looks := false }, told := true, laidByText := true, laidKinds := [.data, .listed, .listed, .data, .wider, .pinned, .pinned, .pinned, .pinned, .pinned, .pinned], laidTests := true, laidLooks := .later, goes := false }
def FnCheckNameMatchesRulesToldSaid : Prop := Claim7.holds Tryf.pinned (.plain (OpenSpec.ofChange fnCheckNameMatchesRulesSpec)) fnCheckNameMatchesRulesCard
/-- ITS FALSE NEIGHBOUR. Refute it at one input. -/
def FnCheckNameMatchesRulesToldWrongFalsely : Prop := Claim7.holds Tryf.pinned (.plain (OpenSpec.ofChange fnCheckNameMatchesRulesWrong)) fnCheckNameMatchesRulesCard

/-- THE TOLD AND TIED CARD OF 'zzlaws_tuple_b1.FnParseMatchesGrammar'. -/
def fnParseMatchesGrammarCard : Claim7 := { stood := { row := fnParseMatchesGrammarRow, standIns := [], harness := (true, "8f1c019020101a5c89101f27ac8c9eaa578b6c87dd52c6aa88544ab53a8a9558"), looks := false }, told := true, laidByText := true, laidKinds := [.data, .listed, .listed, .data, .pinned, .pinned, .pinned, .pinned, .pinned, .pinned], laidTests := true, laidLooks := .later, goes := false }
def FnParseMatchesGrammarToldSaid : Prop := Claim7.holds Tryf.pinned (.plain (OpenSpec.ofChange fnParseMatchesGrammarSpec)) fnParseMatchesGrammarCard
/-- ITS FALSE NEIGHBOUR. Refute it at one input. -/
def FnParseMatchesGrammarToldWrongFalsely : Prop := Claim7.holds Tryf.pinned (.plain (OpenSpec.ofChange fnParseMatchesGrammarWrong)) fnParseMatchesGrammarCard
end Rows
end Go.Proofs.Qxb6606252aFmt
