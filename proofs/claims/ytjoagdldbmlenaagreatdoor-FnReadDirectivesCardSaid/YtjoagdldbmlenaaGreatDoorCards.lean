/-
  DERIVED. GIVEN WITH THE SEED: THE CARDS: each row of YtjoagdldbmlenaaGreatDoorRows.lean that lists a variable, with what it lists TIED to the program's text (the seventh form; the later family's looks); each row that meets fmt, with fmt's text TOLD by the authors' own Lean function (tested against real Go, not proved from fmt's source: count such statements apart). THE CARD IS WHAT COUNTS. Prove the row's statement (the work); the ties are given (YtjoagdldbmlenaaGreatDoorTie.lean); close each card by the builder's one call (the guide's Derived/Test/ToyasCard.lean, 'card_holds'). Laid BY PROGRAM, IN A SANDBOX (cutbox-door.mjs). By AI agents, Wed Nov 11 2026. No macro, syntax, notation, axiom, sorry.
-/
import Derived.Test.YtjoagdldbmlenaaGreatDoorRows
import GoSem.ClaimSeven
namespace Go.Proofs.YtjoagdldbmlenaaGreatDoor
namespace Rows

/-- THE TIED CARD OF 'laws.FnReadDirectives'. -/
def fnReadDirectivesCard : Claim7 := { stood := { row := fnReadDirectivesRow, standIns := [], harness := (true, "b28cc931b8c10f9d9260d4438c20eaa88fa3fd1c231de0ec1b73991b795a2321"), looks := true }, kinds := [], alts := [], laidByText := true, laidKinds := [.data, .sentinel, .pinned], laidTests := true, laidLooks := .later }
def FnReadDirectivesCardSaid : Prop := Claim7.holds Tryz.pinned (.plain (OpenSpec.ofChange fnReadDirectivesSpec)) fnReadDirectivesCard

/-- THE SECOND FORM's CARD OF 'laws.FnReadDirectives'. -/
def fnReadDirectivesUptoCard : Claim7 := { stood := { row := fnReadDirectivesUptoRow, standIns := [], harness := (true, "b28cc931b8c10f9d9260d4438c20eaa88fa3fd1c231de0ec1b73991b795a2321"), looks := true }, kinds := [], alts := [], laidByText := true, laidKinds := [.data, .sentinel, .pinned], laidTests := true, laidLooks := .later }
def FnReadDirectivesUptoCardSaid : Prop := Claim7.holds Tryz.pinned (.plain (OpenSpec.upto fnReadDirectivesSpec)) fnReadDirectivesUptoCard
end Rows
end Go.Proofs.YtjoagdldbmlenaaGreatDoor
