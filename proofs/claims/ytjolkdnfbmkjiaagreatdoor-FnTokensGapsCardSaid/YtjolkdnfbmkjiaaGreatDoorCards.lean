/-
  DERIVED. GIVEN WITH THE SEED: THE CARDS: each row of YtjolkdnfbmkjiaaGreatDoorRows.lean that lists a variable, with what it lists TIED to the program's text (the seventh form; the later family's looks); each row that meets fmt, with fmt's text TOLD by the authors' own Lean function (tested against real Go, not proved from fmt's source: count such statements apart). THE CARD IS WHAT COUNTS. Prove the row's statement (the work); the ties are given (YtjolkdnfbmkjiaaGreatDoorTie.lean); close each card by the builder's one call (the guide's Derived/Test/ToyasCard.lean, 'card_holds'). Laid BY PROGRAM, IN A SANDBOX (cutbox-door.mjs). By AI agents, Wed Nov 11 2026. No macro, syntax, notation, axiom, sorry.
-/
import Derived.Test.YtjolkdnfbmkjiaaGreatDoorRows
import GoSem.ClaimSeven
namespace Go.Proofs.YtjolkdnfbmkjiaaGreatDoor
namespace Rows

/-- THE TIED CARD OF 'laws.FnTokensGaps'. -/
def fnTokensGapsCard : Claim7 := { stood := { row := fnTokensGapsRow, standIns := [], harness := (true, "6df4be45a98715cde3f2a3763c41b7d83e5424fbc37db74cef62f8b14b4bd571"), looks := true }, kinds := [], alts := [], laidByText := true, laidKinds := [.data, .sentinel, .pinned], laidTests := true, laidLooks := .later }
def FnTokensGapsCardSaid : Prop := Claim7.holds Tryz.pinned (.plain (OpenSpec.ofChange fnTokensGapsSpec)) fnTokensGapsCard

/-- THE SECOND FORM's CARD OF 'laws.FnTokensGaps'. -/
def fnTokensGapsUptoCard : Claim7 := { stood := { row := fnTokensGapsUptoRow, standIns := [], harness := (true, "6df4be45a98715cde3f2a3763c41b7d83e5424fbc37db74cef62f8b14b4bd571"), looks := true }, kinds := [], alts := [], laidByText := true, laidKinds := [.data, .sentinel, .pinned], laidTests := true, laidLooks := .later }
def FnTokensGapsUptoCardSaid : Prop := Claim7.holds Tryz.pinned (.plain (OpenSpec.upto fnTokensGapsSpec)) fnTokensGapsUptoCard
end Rows
end Go.Proofs.YtjolkdnfbmkjiaaGreatDoor
