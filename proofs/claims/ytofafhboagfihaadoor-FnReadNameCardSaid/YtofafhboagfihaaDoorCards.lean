/-
  DERIVED. GIVEN WITH THE SEED: THE CARDS: each row of YtofafhboagfihaaDoorRows.lean that lists a variable, with what it lists TIED to the program's text (the seventh form; the later family's looks); each row that meets fmt, with fmt's text TOLD by the authors' own Lean function (tested against real Go, not proved from fmt's source: count such statements apart). THE CARD IS WHAT COUNTS. Prove the row's statement (the work); the ties are given (YtofafhboagfihaaDoorTie.lean); close each card by the builder's one call (the guide's Derived/Test/ToyasCard.lean, 'card_holds'). Laid BY PROGRAM, IN A SANDBOX (cutbox-door.mjs). By AI agents, Wed Nov 11 2026. No macro, syntax, notation, axiom, sorry.
-/
import Derived.Test.YtofafhboagfihaaDoorRows
import GoSem.ClaimSeven
namespace Go.Proofs.YtofafhboagfihaaDoor
namespace Rows

/-- THE TIED CARD OF 'laws.FnReadName'. -/
def fnReadNameCard : Claim7 := { stood := { row := fnReadNameRow, standIns := [], harness := (true, "e099340c3722784b6f079f12d7fca2a729f31f7dfbbbd929f2fcf8441a48d4d4"), looks := false }, kinds := [], alts := [], laidByText := true, laidKinds := [.data, .pinned], laidTests := true, laidLooks := .later }
def FnReadNameCardSaid : Prop := Claim7.holds Tryd.pinned (.plain (OpenSpec.ofChange fnReadNameSpec)) fnReadNameCard

/-- THE SECOND FORM's CARD OF 'laws.FnReadName'. -/
def fnReadNameUptoCard : Claim7 := { stood := { row := fnReadNameUptoRow, standIns := [], harness := (true, "e099340c3722784b6f079f12d7fca2a729f31f7dfbbbd929f2fcf8441a48d4d4"), looks := false }, kinds := [], alts := [], laidByText := true, laidKinds := [.data, .pinned], laidTests := true, laidLooks := .later }
def FnReadNameUptoCardSaid : Prop := Claim7.holds Tryd.pinned (.plain (OpenSpec.upto fnReadNameSpec)) fnReadNameUptoCard
end Rows
end Go.Proofs.YtofafhboagfihaaDoor
