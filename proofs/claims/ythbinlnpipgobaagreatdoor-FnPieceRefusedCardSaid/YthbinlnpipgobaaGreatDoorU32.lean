/- What this claim proves: laws.FnPieceRefused answers true for every text. For a text of at most 600 bytes of ASCII without braces, quotation marks and comments, impl.Parse refuses it as selections of an operation, within a field, within a fragment and within an inline fragment, or takes it in all four places; and a document of one field is taken. No condition; the variables unicode/utf8.first, unicode/utf8.acceptRanges and bytes.ErrTooLarge are tied by the card to the program's text (a pruned copy: nothing is said of the project's other packages). -/
import Derived.Test.YthbinlnpipgobaaGreatDoorU28
import Derived.Test.YthbinlnpipgobaaGreatDoorU29
namespace Go.Proofs.YthbinlnpipgobaaGreatDoor.LawC
theorem card_holds : Rows.FnPieceRefusedCardSaid := card_of LawP.law
#print axioms card_holds
end Go.Proofs.YthbinlnpipgobaaGreatDoor.LawC
