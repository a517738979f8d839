/-
  DERIVED. GIVEN WITH THE SEED: THE CARDS: each row of YthnfbcloepfooaaGreatDoorRows.lean that lists a variable, with what it lists TIED to the program's text (the seventh form; the later family's looks); each row that meets fmt, with fmt's text TOLD by the authors' own Lean function (tested against real Go, not proved from fmt's source: count such statements apart). THE CARD IS WHAT COUNTS. Prove the row's statement (the work); the ties are given (YthnfbcloepfooaaGreatDoorTie.lean); close each card by the builder's one call (the guide's Derived/Test/ToyasCard.lean, 'card_holds'). Laid BY PROGRAM, IN A SANDBOX (cutbox-door.mjs). By AI agents, Wed Nov 11 2026. No macro, syntax, notation, axiom, sorry.
-/
import Derived.Test.YthnfbcloepfooaaGreatDoorRows
import GoSem.ClaimSeven
namespace Go.Proofs.YthnfbcloepfooaaGreatDoor
namespace Rows

/-- THE TIED CARD OF 'rosettalaw35.BencodeoutParsed'. -/
def bencodeoutParsedCard : Claim7 := { stood := { row := bencodeoutParsedRow, standIns := [], harness := (true, "5429cff081261bd00e8ed5a23a0a95cc2814ffd8f24d299e241392893fd22f96"), looks := true }, kinds := [], alts := [], laidByText := true, laidKinds := [.data, .data, .data, .data, .sentinel, .sentinel, .pinned], laidTests := true, laidLooks := .later }
def BencodeoutParsedCardSaid : Prop := Claim7.holds Tryz.pinned (.plain (OpenSpec.ofChange bencodeoutParsedSpec)) bencodeoutParsedCard

/-- THE SECOND FORM's CARD OF 'rosettalaw35.BencodeoutParsed'. -/
def bencodeoutParsedUptoCard : Claim7 := { stood := { row := bencodeoutParsedUptoRow, standIns := [], harness := (true, "5429cff081261bd00e8ed5a23a0a95cc2814ffd8f24d299e241392893fd22f96"), looks := true }, kinds := [], alts := [], laidByText := true, laidKinds := [.data, .data, .data, .data, .sentinel, .sentinel, .pinned], laidTests := true, laidLooks := .later }
def BencodeoutParsedUptoCardSaid : Prop := Claim7.holds Tryz.pinned (.plain (OpenSpec.upto bencodeoutParsedSpec)) bencodeoutParsedUptoCard
end Rows
end Go.Proofs.YthnfbcloepfooaaGreatDoor
