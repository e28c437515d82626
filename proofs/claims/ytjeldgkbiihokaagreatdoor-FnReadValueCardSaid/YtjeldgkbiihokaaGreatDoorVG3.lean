/- What this claim proves: laws.FnReadValue answers true for every text and with variables or without. For a text of UTF-8 of at most 2000 bytes of which the reference is sure, parser.ReadValue reads the value that the reference reads at its beginning (handed out as the same list of nodes but for the way strings are written), and where the next token begins, or both refuse it. No condition; the variables unicode/utf8.first, unicode/utf8.acceptRanges and bytes.ErrTooLarge are tied by the card to the program's text (a pruned copy of the project: the packages that the law loads, without test files). -/
import Derived.Test.YtjeldgkbiihokaaGreatDoorVG1
import Derived.Test.YtjeldgkbiihokaaGreatDoorVG2
set_option maxRecDepth 100000
set_option maxHeartbeats 8000000
set_option linter.unusedVariables false
set_option linter.unusedSimpArgs false
namespace Go.Proofs.YtjeldgkbiihokaaGreatDoor.LawC
theorem card_holds : Rows.FnReadValueCardSaid := card_of LawV.law
#print axioms card_holds
end Go.Proofs.YtjeldgkbiihokaaGreatDoor.LawC
