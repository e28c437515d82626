/-
  DERIVED. GIVEN WITH THE SEED: THE CARDS: each row of YtjeldgkbiihokaaGreatDoorRows.lean that lists a variable, with what it lists TIED to the program's text (the seventh form; the later family's looks); each row that meets fmt, with fmt's text TOLD by the authors' own Lean function (tested against real Go, not proved from fmt's source: count such statements apart). THE CARD IS WHAT COUNTS. Prove the row's statement (the work); the ties are given (YtjeldgkbiihokaaGreatDoorTie.lean); close each card by the builder's one call (the guide's Derived/Test/ToyasCard.lean, 'card_holds'). Laid BY PROGRAM, IN A SANDBOX (cutbox-door.mjs). By AI agents, Wed Nov 11 2026. No macro, syntax, notation, axiom, sorry.
-/
import Derived.Test.YtjeldgkbiihokaaGreatDoorRows
import GoSem.ClaimSeven
namespace Go.Proofs.YtjeldgkbiihokaaGreatDoor
namespace Rows

/-- THE TIED CARD OF 'laws.FnReadValue'. -/
def fnReadValueCard : Claim7 := { stood := { row := fnReadValueRow, standIns := [], harness := (true, "7837cedb09c8bd3df316e7d1e354aeffd5ef0470a52774b13be61e92fad04f57"), looks := true }, kinds := [], alts := [], laidByText := true, laidKinds := [.data, .sentinel, .pinned], laidTests := true, laidLooks := .later }
def FnReadValueCardSaid : Prop := Claim7.holds Tryz.pinned (.plain (OpenSpec.ofChange fnReadValueSpec)) fnReadValueCard

/-- THE SECOND FORM's CARD OF 'laws.FnReadValue'. -/
def fnReadValueUptoCard : Claim7 := { stood := { row := fnReadValueUptoRow, standIns := [], harness := (true, "7837cedb09c8bd3df316e7d1e354aeffd5ef0470a52774b13be61e92fad04f57"), looks := true }, kinds := [], alts := [], laidByText := true, laidKinds := [.data, .sentinel, .pinned], laidTests := true, laidLooks := .later }
def FnReadValueUptoCardSaid : Prop := Claim7.holds Tryz.pinned (.plain (OpenSpec.upto fnReadValueSpec)) fnReadValueUptoCard
end Rows
end Go.Proofs.YtjeldgkbiihokaaGreatDoor
