/-
  DERIVED. GIVEN WITH THE SEED: THE CARDS: each row of YtlceacefhnllbaaGreatDoorRows.lean that lists a variable, with what it lists TIED to the program's text (the seventh form; the later family's looks); each row that meets fmt, with fmt's text TOLD by the authors' own Lean function (tested against real Go, not proved from fmt's source: count such statements apart). THE CARD IS WHAT COUNTS. Prove the row's statement (the work); the ties are given (YtlceacefhnllbaaGreatDoorTie.lean); close each card by the builder's one call (the guide's Derived/Test/ToyasCard.lean, 'card_holds'). Laid BY PROGRAM, IN A SANDBOX (cutbox-door.mjs). By AI agents, Wed Nov 11 2026. No macro, syntax, notation, axiom, sorry.
-/
import Derived.Test.YtlceacefhnllbaaGreatDoorRows
import GoSem.ClaimSeven
namespace Go.Proofs.YtlceacefhnllbaaGreatDoor
namespace Rows

/-- THE TIED CARD OF 'laws.FnStates'. -/
def fnStatesCard : Claim7 := { stood := { row := fnStatesRow, standIns := [], harness := (true, "1bf325971e80dcb8e72f6c3837360d20704870cb21a8f4c17290b279827cc43c"), looks := true }, kinds := [], alts := [], laidByText := true, laidKinds := [.data, .data, .data], laidTests := true, laidLooks := .later }
def FnStatesCardSaid : Prop := Claim7.holds Tryz.pinned (.plain (OpenSpec.ofChange fnStatesSpec)) fnStatesCard

/-- THE SECOND FORM's CARD OF 'laws.FnStates'. -/
def fnStatesUptoCard : Claim7 := { stood := { row := fnStatesUptoRow, standIns := [], harness := (true, "1bf325971e80dcb8e72f6c3837360d20704870cb21a8f4c17290b279827cc43c"), looks := true }, kinds := [], alts := [], laidByText := true, laidKinds := [.data, .data, .data], laidTests := true, laidLooks := .later }
def FnStatesUptoCardSaid : Prop := Claim7.holds Tryz.pinned (.plain (OpenSpec.upto fnStatesSpec)) fnStatesUptoCard
end Rows
end Go.Proofs.YtlceacefhnllbaaGreatDoor
