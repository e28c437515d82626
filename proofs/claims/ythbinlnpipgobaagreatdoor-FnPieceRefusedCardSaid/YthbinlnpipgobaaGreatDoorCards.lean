/-
  DERIVED. GIVEN WITH THE SEED: THE CARDS: each row of YthbinlnpipgobaaGreatDoorRows.lean that lists a variable, with what it lists TIED to the program's text (the seventh form; the later family's looks); each row that meets fmt, with fmt's text TOLD by the authors' own Lean function (tested against real Go, not proved from fmt's source: count such statements apart). THE CARD IS WHAT COUNTS. Prove the row's statement (the work); the ties are given (YthbinlnpipgobaaGreatDoorTie.lean); close each card by the builder's one call (the guide's Derived/Test/ToyasCard.lean, 'card_holds'). Laid BY PROGRAM, IN A SANDBOX (cutbox-door.mjs). By AI agents, Wed Nov 11 2026. No macro, syntax, notation, axiom, sorry.
-/
import Derived.Test.YthbinlnpipgobaaGreatDoorRows
import GoSem.ClaimSeven
namespace Go.Proofs.YthbinlnpipgobaaGreatDoor
namespace Rows

/-- THE TIED CARD OF 'laws.FnPieceRefused'. -/
def fnPieceRefusedCard : Claim7 := { stood := { row := fnPieceRefusedRow, standIns := [], harness := (true, "bdf07c8d1e25cf580cd3c0da708227f3197f7169de7d607d999aa857b34f62ff"), looks := true }, kinds := [], alts := [], laidByText := true, laidKinds := [.data, .sentinel, .pinned], laidTests := true, laidLooks := .later }
def FnPieceRefusedCardSaid : Prop := Claim7.holds Tryz.pinned (.plain (OpenSpec.ofChange fnPieceRefusedSpec)) fnPieceRefusedCard

/-- THE SECOND FORM's CARD OF 'laws.FnPieceRefused'. -/
def fnPieceRefusedUptoCard : Claim7 := { stood := { row := fnPieceRefusedUptoRow, standIns := [], harness := (true, "bdf07c8d1e25cf580cd3c0da708227f3197f7169de7d607d999aa857b34f62ff"), looks := true }, kinds := [], alts := [], laidByText := true, laidKinds := [.data, .sentinel, .pinned], laidTests := true, laidLooks := .later }
def FnPieceRefusedUptoCardSaid : Prop := Claim7.holds Tryz.pinned (.plain (OpenSpec.upto fnPieceRefusedSpec)) fnPieceRefusedUptoCard
end Rows
end Go.Proofs.YthbinlnpipgobaaGreatDoor
