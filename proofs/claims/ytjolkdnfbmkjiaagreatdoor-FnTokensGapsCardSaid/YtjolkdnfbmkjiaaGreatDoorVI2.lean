/- What this claim proves: laws.FnTokensGaps answers true for every list of nodes and every row of bytes. For a document that the reference calls right (any definitions, at most 400 nodes, 40 deep, with texts of at most 4000 bytes) and at most 100 bytes, the tokens that impl.Tokens reads in the document's tokens with one blank between, and in the same tokens with blanks, tabs, line ends, commas and comments between them by the bytes, are the same, as many as the document has, and both texts are accepted. No condition; the variables unicode/utf8.first, unicode/utf8.acceptRanges and bytes.ErrTooLarge are tied by the card to the program's text (a pruned copy of the project: the packages that the law loads, without test files). -/
import Derived.Test.YtjolkdnfbmkjiaaGreatDoorVI1
import Derived.Test.YtjolkdnfbmkjiaaGreatDoorVH6
set_option maxRecDepth 100000
set_option maxHeartbeats 8000000
set_option linter.unusedVariables false
set_option linter.unusedSimpArgs false
namespace Go.Proofs.YtjolkdnfbmkjiaaGreatDoor.LawC
theorem card_holds:Rows.FnTokensGapsCardSaid:=card_of (fun _ _ _ _ _ _ _ hC hcd hB hcb hby ht=>Wr.law_any hC hcd hB hcb hby ht)
#print axioms card_holds
end Go.Proofs.YtjolkdnfbmkjiaaGreatDoor.LawC
