/-
  DERIVED. GIVEN WITH THE SEED: THE CARDS: each row of YtklgaldpcaogbaaGreatDoorRows.lean that lists a variable, with what it lists TIED to the program's text (the seventh form; the later family's looks); each row that meets fmt, with fmt's text TOLD by the authors' own Lean function (tested against real Go, not proved from fmt's source: count such statements apart). THE CARD IS WHAT COUNTS. Prove the row's statement (the work); the ties are given (YtklgaldpcaogbaaGreatDoorTie.lean); close each card by the builder's one call (the guide's Derived/Test/ToyasCard.lean, 'card_holds'). Laid BY PROGRAM, IN A SANDBOX (cutbox-door.mjs). By AI agents, Wed Nov 11 2026. No macro, syntax, notation, axiom, sorry.
-/
import Derived.Test.YtklgaldpcaogbaaGreatDoorRows
import GoSem.ClaimSeven
namespace Go.Proofs.YtklgaldpcaogbaaGreatDoor
namespace Rows

/-- THE TIED CARD OF 'laws.FnReadBlock'. -/
def fnReadBlockCard : Claim7 := { stood := { row := fnReadBlockRow, standIns := [], harness := (true, "a0a8a1f4ed3b81089375530d32e7a7d9800af802bbd21d3a48495941fae796ac"), looks := true }, kinds := [], alts := [], laidByText := true, laidKinds := [.data, .sentinel, .pinned], laidTests := true, laidLooks := .later }
def FnReadBlockCardSaid : Prop := Claim7.holds Tryz.pinned (.plain (OpenSpec.ofChange fnReadBlockSpec)) fnReadBlockCard

/-- THE SECOND FORM's CARD OF 'laws.FnReadBlock'. -/
def fnReadBlockUptoCard : Claim7 := { stood := { row := fnReadBlockUptoRow, standIns := [], harness := (true, "a0a8a1f4ed3b81089375530d32e7a7d9800af802bbd21d3a48495941fae796ac"), looks := true }, kinds := [], alts := [], laidByText := true, laidKinds := [.data, .sentinel, .pinned], laidTests := true, laidLooks := .later }
def FnReadBlockUptoCardSaid : Prop := Claim7.holds Tryz.pinned (.plain (OpenSpec.upto fnReadBlockSpec)) fnReadBlockUptoCard
end Rows
end Go.Proofs.YtklgaldpcaogbaaGreatDoor
