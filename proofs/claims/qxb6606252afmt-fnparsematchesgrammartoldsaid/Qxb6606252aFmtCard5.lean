/-
  THE TOLD AND TIED CARD OF FnParseMatchesGrammar.
-/
import Derived.Test.Qxb6606252aFmtRow5
import Derived.Test.Qxb6606252aFmtZz4
namespace Go.Proofs.Qxb6606252aFmt

theorem card5 : Rows.FnParseMatchesGrammarToldSaid := card5_of fun fm s w hs => nameOK_any fm s w hs
end Go.Proofs.Qxb6606252aFmt
