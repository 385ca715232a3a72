/-
  DERIVED. GIVEN WITH THE SEED: THE CARDS: each row of YtpbeedabmjmdmaaGreatDoorRows.lean that lists a variable, with what it lists TIED to the program's text (the seventh form; the later family's looks); each row that meets fmt, with fmt's text TOLD by the authors' own Lean function (tested against real Go, not proved from fmt's source: count such statements apart). THE CARD IS WHAT COUNTS. Prove the row's statement (the work); the ties are given (YtpbeedabmjmdmaaGreatDoorTie.lean); close each card by the builder's one call (the guide's Derived/Test/ToyasCard.lean, 'card_holds'). Laid BY PROGRAM, IN A SANDBOX (cutbox-door.mjs). By AI agents, Wed Nov 11 2026. No macro, syntax, notation, axiom, sorry.
-/
import Derived.Test.YtpbeedabmjmdmaaGreatDoorRows
import GoSem.ClaimSeven
namespace Go.Proofs.YtpbeedabmjmdmaaGreatDoor
namespace Rows

/-- THE TIED CARD OF 'laws.FnBoundPlaces'. -/
def fnBoundPlacesCard : Claim7 := { stood := { row := fnBoundPlacesRow, standIns := [], harness := (true, "06f10e4e5f291e254c593e2c002e9ba1740a4b0a73b27dd8aa1cbc5e697a987f"), looks := true }, kinds := [], alts := [], laidByText := true, laidKinds := [.data, .data], laidTests := true, laidLooks := .later }
def FnBoundPlacesCardSaid : Prop := Claim7.holds Tryz.pinned (.plain (OpenSpec.ofChange fnBoundPlacesSpec)) fnBoundPlacesCard

/-- THE SECOND FORM's CARD OF 'laws.FnBoundPlaces'. -/
def fnBoundPlacesUptoCard : Claim7 := { stood := { row := fnBoundPlacesUptoRow, standIns := [], harness := (true, "06f10e4e5f291e254c593e2c002e9ba1740a4b0a73b27dd8aa1cbc5e697a987f"), looks := true }, kinds := [], alts := [], laidByText := true, laidKinds := [.data, .data], laidTests := true, laidLooks := .later }
def FnBoundPlacesUptoCardSaid : Prop := Claim7.holds Tryz.pinned (.plain (OpenSpec.upto fnBoundPlacesSpec)) fnBoundPlacesUptoCard
end Rows
end Go.Proofs.YtpbeedabmjmdmaaGreatDoor
