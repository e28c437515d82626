/-
  DERIVED. GIVEN WITH THE SEED: THE CARDS: each row of YtaekkifjkgpimaaGreatDoorRows.lean that lists a variable, with what it lists TIED to the program's text (the seventh form; the later family's looks); each row that meets fmt, with fmt's text TOLD by the authors' own Lean function (tested against real Go, not proved from fmt's source: count such statements apart). THE CARD IS WHAT COUNTS. Prove the row's statement (the work); the ties are given (YtaekkifjkgpimaaGreatDoorTie.lean); close each card by the builder's one call (the guide's Derived/Test/ToyasCard.lean, 'card_holds'). Laid BY PROGRAM, IN A SANDBOX (cutbox-door.mjs). By AI agents, Wed Nov 11 2026. No macro, syntax, notation, axiom, sorry.
-/
import Derived.Test.YtaekkifjkgpimaaGreatDoorRows
import GoSem.ClaimSeven
namespace Go.Proofs.YtaekkifjkgpimaaGreatDoor
namespace Rows

/-- THE TIED CARD OF 'laws.FnCoerceIntText'. -/
def fnCoerceIntTextCard : Claim7 := { stood := { row := fnCoerceIntTextRow, standIns := [], harness := (true, "bd41114ceaecd18fd7ad2bde23919bcf81777dd9867cc9e19c45e2cfc25c5098"), looks := true }, kinds := [], alts := [], laidByText := true, laidKinds := [.data, .data, .widerDeep, .widerDeep, .data, .data, .data, .data, .data, .sentinel, .sentinel, .pinned, .pinned], laidTests := true, laidLooks := .later }
def FnCoerceIntTextCardSaid : Prop := Claim7.holds Tryz.pinned (.plain (OpenSpec.ofChange fnCoerceIntTextSpec)) fnCoerceIntTextCard

/-- THE SECOND FORM's CARD OF 'laws.FnCoerceIntText'. -/
def fnCoerceIntTextUptoCard : Claim7 := { stood := { row := fnCoerceIntTextUptoRow, standIns := [], harness := (true, "bd41114ceaecd18fd7ad2bde23919bcf81777dd9867cc9e19c45e2cfc25c5098"), looks := true }, kinds := [], alts := [], laidByText := true, laidKinds := [.data, .data, .widerDeep, .widerDeep, .data, .data, .data, .data, .data, .sentinel, .sentinel, .pinned, .pinned], laidTests := true, laidLooks := .later }
def FnCoerceIntTextUptoCardSaid : Prop := Claim7.holds Tryz.pinned (.plain (OpenSpec.upto fnCoerceIntTextSpec)) fnCoerceIntTextUptoCard
end Rows
end Go.Proofs.YtaekkifjkgpimaaGreatDoor
