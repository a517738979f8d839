/-
  DERIVED. GIVEN WITH THE SEED: THE CARDS: each row of YthcljaholofonaaGreatDoorRows.lean that lists a variable, with what it lists TIED to the program's text (the seventh form; the later family's looks); each row that meets fmt, with fmt's text TOLD by the authors' own Lean function (tested against real Go, not proved from fmt's source: count such statements apart). THE CARD IS WHAT COUNTS. Prove the row's statement (the work); the ties are given (YthcljaholofonaaGreatDoorTie.lean); close each card by the builder's one call (the guide's Derived/Test/ToyasCard.lean, 'card_holds'). Laid BY PROGRAM, IN A SANDBOX (cutbox-door.mjs). By AI agents, Wed Nov 11 2026. No macro, syntax, notation, axiom, sorry.
-/
import Derived.Test.YthcljaholofonaaGreatDoorRows
import GoSem.ClaimSeven
namespace Go.Proofs.YthcljaholofonaaGreatDoor
namespace Rows

/-- THE TIED CARD OF 'rosettalaw35.BencodeoutDiffers'. -/
def bencodeoutDiffersCard : Claim7 := { stood := { row := bencodeoutDiffersRow, standIns := [], harness := (true, "ff3492526b8cf167c4e6a3adc6c45d425522e38a6dc34f77df0f792eb5c567d9"), looks := true }, kinds := [], alts := [], laidByText := true, laidKinds := [.data, .data, .data, .data, .sentinel, .sentinel, .pinned], laidTests := true, laidLooks := .later }
def BencodeoutDiffersCardSaid : Prop := Claim7.holds Tryz.pinned (.plain (OpenSpec.ofChange bencodeoutDiffersSpec)) bencodeoutDiffersCard

/-- THE SECOND FORM's CARD OF 'rosettalaw35.BencodeoutDiffers'. -/
def bencodeoutDiffersUptoCard : Claim7 := { stood := { row := bencodeoutDiffersUptoRow, standIns := [], harness := (true, "ff3492526b8cf167c4e6a3adc6c45d425522e38a6dc34f77df0f792eb5c567d9"), looks := true }, kinds := [], alts := [], laidByText := true, laidKinds := [.data, .data, .data, .data, .sentinel, .sentinel, .pinned], laidTests := true, laidLooks := .later }
def BencodeoutDiffersUptoCardSaid : Prop := Claim7.holds Tryz.pinned (.plain (OpenSpec.upto bencodeoutDiffersSpec)) bencodeoutDiffersUptoCard
end Rows
end Go.Proofs.YthcljaholofonaaGreatDoor
