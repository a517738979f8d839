/-
  DERIVED. GIVEN WITH THE SEED: THE CARDS: each row of YtmfkngdglbcngaaGreatDoorRows.lean that lists a variable, with what it lists TIED to the program's text (the seventh form; the later family's looks); each row that meets fmt, with fmt's text TOLD by the authors' own Lean function (tested against real Go, not proved from fmt's source: count such statements apart). THE CARD IS WHAT COUNTS. Prove the row's statement (the work); the ties are given (YtmfkngdglbcngaaGreatDoorTie.lean); close each card by the builder's one call (the guide's Derived/Test/ToyasCard.lean, 'card_holds'). Laid BY PROGRAM, IN A SANDBOX (cutbox-door.mjs). By AI agents, Wed Nov 11 2026. No macro, syntax, notation, axiom, sorry.
-/
import Derived.Test.YtmfkngdglbcngaaGreatDoorRows
import GoSem.ClaimSeven
namespace Go.Proofs.YtmfkngdglbcngaaGreatDoor
namespace Rows

/-- THE TIED CARD OF 'rosettalaw12.EqualNotices'. -/
def equalNoticesCard : Claim7 := { stood := { row := equalNoticesRow, standIns := [], harness := (true, "1368e744455e28c2a0bf6e17dad28376b5da01cc0b7e433577f74f06041964cd"), looks := true }, kinds := [], alts := [], laidByText := true, laidKinds := [.data, .data, .data, .data, .sentinel, .sentinel, .pinned], laidTests := true, laidLooks := .later }
def EqualNoticesCardSaid : Prop := Claim7.holds Tryz.pinned (.plain (OpenSpec.ofChange equalNoticesSpec)) equalNoticesCard

/-- THE SECOND FORM's CARD OF 'rosettalaw12.EqualNotices'. -/
def equalNoticesUptoCard : Claim7 := { stood := { row := equalNoticesUptoRow, standIns := [], harness := (true, "1368e744455e28c2a0bf6e17dad28376b5da01cc0b7e433577f74f06041964cd"), looks := true }, kinds := [], alts := [], laidByText := true, laidKinds := [.data, .data, .data, .data, .sentinel, .sentinel, .pinned], laidTests := true, laidLooks := .later }
def EqualNoticesUptoCardSaid : Prop := Claim7.holds Tryz.pinned (.plain (OpenSpec.upto equalNoticesSpec)) equalNoticesUptoCard
end Rows
end Go.Proofs.YtmfkngdglbcngaaGreatDoor
