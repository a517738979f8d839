/-
  DERIVED. GIVEN WITH THE SEED: THE CARDS: each row of YtajnpfnomgjlaaaGreatDoorRows.lean that lists a variable, with what it lists TIED to the program's text (the seventh form; the later family's looks); each row that meets fmt, with fmt's text TOLD by the authors' own Lean function (tested against real Go, not proved from fmt's source: count such statements apart). THE CARD IS WHAT COUNTS. Prove the row's statement (the work); the ties are given (YtajnpfnomgjlaaaGreatDoorTie.lean); close each card by the builder's one call (the guide's Derived/Test/ToyasCard.lean, 'card_holds'). Laid BY PROGRAM, IN A SANDBOX (cutbox-door.mjs). By AI agents, Wed Nov 11 2026. No macro, syntax, notation, axiom, sorry.
-/
import Derived.Test.YtajnpfnomgjlaaaGreatDoorRows
import GoSem.ClaimSeven
namespace Go.Proofs.YtajnpfnomgjlaaaGreatDoor
namespace Rows

/-- THE TIED CARD OF 'rosettalaw35.BencodeoutNormal'. -/
def bencodeoutNormalCard : Claim7 := { stood := { row := bencodeoutNormalRow, standIns := [], harness := (true, "4e1990b757d74b7305488c5f18f5281d0d1f828f1cf4b1506f42e71108372a67"), looks := true }, kinds := [], alts := [], laidByText := true, laidKinds := [.data, .data, .data, .data, .sentinel, .sentinel, .pinned], laidTests := true, laidLooks := .later }
def BencodeoutNormalCardSaid : Prop := Claim7.holds Tryz.pinned (.plain (OpenSpec.ofChange bencodeoutNormalSpec)) bencodeoutNormalCard

/-- THE SECOND FORM's CARD OF 'rosettalaw35.BencodeoutNormal'. -/
def bencodeoutNormalUptoCard : Claim7 := { stood := { row := bencodeoutNormalUptoRow, standIns := [], harness := (true, "4e1990b757d74b7305488c5f18f5281d0d1f828f1cf4b1506f42e71108372a67"), looks := true }, kinds := [], alts := [], laidByText := true, laidKinds := [.data, .data, .data, .data, .sentinel, .sentinel, .pinned], laidTests := true, laidLooks := .later }
def BencodeoutNormalUptoCardSaid : Prop := Claim7.holds Tryz.pinned (.plain (OpenSpec.upto bencodeoutNormalSpec)) bencodeoutNormalUptoCard
end Rows
end Go.Proofs.YtajnpfnomgjlaaaGreatDoor
