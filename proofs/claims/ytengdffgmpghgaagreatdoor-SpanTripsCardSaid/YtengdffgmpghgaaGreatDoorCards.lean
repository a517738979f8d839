/-
  DERIVED. GIVEN WITH THE SEED: THE CARDS: each row of YtengdffgmpghgaaGreatDoorRows.lean that lists a variable, with what it lists TIED to the program's text (the seventh form; the later family's looks); each row that meets fmt, with fmt's text TOLD by the authors' own Lean function (tested against real Go, not proved from fmt's source: count such statements apart). THE CARD IS WHAT COUNTS. Prove the row's statement (the work); the ties are given (YtengdffgmpghgaaGreatDoorTie.lean); close each card by the builder's one call (the guide's Derived/Test/ToyasCard.lean, 'card_holds'). Laid BY PROGRAM, IN A SANDBOX (cutbox-door.mjs). By AI agents, Wed Nov 11 2026. No macro, syntax, notation, axiom, sorry.
-/
import Derived.Test.YtengdffgmpghgaaGreatDoorRows
import GoSem.ClaimSeven
namespace Go.Proofs.YtengdffgmpghgaaGreatDoor
namespace Rows

/-- THE TIED CARD OF 'rosettalaw18.SpanTrips'. -/
def spanTripsCard : Claim7 := { stood := { row := spanTripsRow, standIns := [], harness := (true, "ead3ab537054b7f6975c23d497ebe4ae46fa91301c6e334d4ea0508c34acfc1b"), looks := true }, kinds := [], alts := [], laidByText := true, laidKinds := [.data, .data, .data, .data, .sentinel, .sentinel, .pinned], laidTests := true, laidLooks := .later }
def SpanTripsCardSaid : Prop := Claim7.holds Tryz.pinned (.plain (OpenSpec.ofChange spanTripsSpec)) spanTripsCard

/-- THE SECOND FORM's CARD OF 'rosettalaw18.SpanTrips'. -/
def spanTripsUptoCard : Claim7 := { stood := { row := spanTripsUptoRow, standIns := [], harness := (true, "ead3ab537054b7f6975c23d497ebe4ae46fa91301c6e334d4ea0508c34acfc1b"), looks := true }, kinds := [], alts := [], laidByText := true, laidKinds := [.data, .data, .data, .data, .sentinel, .sentinel, .pinned], laidTests := true, laidLooks := .later }
def SpanTripsUptoCardSaid : Prop := Claim7.holds Tryz.pinned (.plain (OpenSpec.upto spanTripsSpec)) spanTripsUptoCard
end Rows
end Go.Proofs.YtengdffgmpghgaaGreatDoor
