/-
  DERIVED. GIVEN WITH THE SEED: THE CARDS: each row of Qxb6605164aDoorRows.lean that lists a variable, with what it lists TIED to the program's text (the seventh form; the later family's looks); each row that meets fmt, with fmt's text TOLD by the authors' own Lean function (tested against real Go, not proved from fmt's source: count such statements apart). THE CARD IS WHAT COUNTS. Prove the row's statement (the work); the ties are given (Qxb6605164aDoorTie.lean); close each card by the builder's one call (the guide's Derived/Test/ToyasCard.lean, 'card_holds'). Laid BY PROGRAM, IN A SANDBOX (cutbox-door.mjs). By AI agents, Wed Nov 11 2026. No macro, syntax, notation, axiom, sorry.
-/
import Derived.Test.Qxb6605164aDoorRows
import GoSem.ClaimSeven
namespace Go.Proofs.Qxb6605164aDoor
namespace Rows

/-- THE TIED CARD OF 'zzlaws_root_b1.FnIsTableNameMatchesDottedGrammar'. -/
def fnIsTableNameMatchesDottedGrammarCard : Claim7 := { stood := { row := fnIsTableNameMatchesDottedGrammarRow, standIns := [], harness := (true, "6e4dd968fc475bad344aae2ade60dfd5da745ebfe2cf2a0a7c34c25f4d460419"), looks := false }, kinds := [], alts := [], laidByText := true, laidKinds := [.data, .pinned], laidTests := true, laidLooks := .later }
def FnIsTableNameMatchesDottedGrammarCardSaid : Prop := Claim7.holds Tryd.pinned (.plain (OpenSpec.ofChange fnIsTableNameMatchesDottedGrammarSpec)) fnIsTableNameMatchesDottedGrammarCard

/-- THE TIED CARD OF 'zzlaws_root_b1.FnIsTableNameJoinsTwoIdentifiers'. -/
def fnIsTableNameJoinsTwoIdentifiersCard : Claim7 := { stood := { row := fnIsTableNameJoinsTwoIdentifiersRow, standIns := [], harness := (true, "6e4dd968fc475bad344aae2ade60dfd5da745ebfe2cf2a0a7c34c25f4d460419"), looks := false }, kinds := [], alts := [], laidByText := true, laidKinds := [.data, .pinned], laidTests := true, laidLooks := .later }
def FnIsTableNameJoinsTwoIdentifiersCardSaid : Prop := Claim7.holds Tryd.pinned (.plain (OpenSpec.ofChange fnIsTableNameJoinsTwoIdentifiersSpec)) fnIsTableNameJoinsTwoIdentifiersCard

/-- THE TIED CARD OF 'zzlaws_root_b1.FnUnindexedMatchesRightScan'. -/
def fnUnindexedMatchesRightScanCard : Claim7 := { stood := { row := fnUnindexedMatchesRightScanRow, standIns := [], harness := (true, "6e4dd968fc475bad344aae2ade60dfd5da745ebfe2cf2a0a7c34c25f4d460419"), looks := false }, kinds := [], alts := [], laidByText := true, laidKinds := [.data, .pinned], laidTests := true, laidLooks := .later }
def FnUnindexedMatchesRightScanCardSaid : Prop := Claim7.holds Tryd.pinned (.plain (OpenSpec.ofChange fnUnindexedMatchesRightScanSpec)) fnUnindexedMatchesRightScanCard
end Rows
end Go.Proofs.Qxb6605164aDoor
