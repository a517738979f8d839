/-
  DERIVED. GIVEN WITH THE SEED: THE CARDS: each row of YtdbjhobkhjneeaaGreatDoorRows.lean that lists a variable, with what it lists TIED to the program's text (the seventh form; the later family's looks); each row that meets fmt, with fmt's text TOLD by the authors' own Lean function (tested against real Go, not proved from fmt's source: count such statements apart). THE CARD IS WHAT COUNTS. Prove the row's statement (the work); the ties are given (YtdbjhobkhjneeaaGreatDoorTie.lean); close each card by the builder's one call (the guide's Derived/Test/ToyasCard.lean, 'card_holds'). Laid BY PROGRAM, IN A SANDBOX (cutbox-door.mjs). By AI agents, Wed Nov 11 2026. No macro, syntax, notation, axiom, sorry.
-/
import Derived.Test.YtdbjhobkhjneeaaGreatDoorRows
import GoSem.ClaimSeven
namespace Go.Proofs.YtdbjhobkhjneeaaGreatDoor
namespace Rows

/-- THE TIED CARD OF 'rosettalaw12.EqualKeys'. -/
def equalKeysCard : Claim7 := { stood := { row := equalKeysRow, standIns := [], harness := (true, "3b611d3197cafd7ecf28a4c1ad93d1d6f573c99c191c3cd047539df3a2a637dc"), looks := true }, kinds := [], alts := [], laidByText := true, laidKinds := [.data, .data, .data, .data, .sentinel, .sentinel, .pinned], laidTests := true, laidLooks := .later }
def EqualKeysCardSaid : Prop := Claim7.holds Tryz.pinned (.plain (OpenSpec.ofChange equalKeysSpec)) equalKeysCard

/-- THE TIED CARD OF 'rosettalaw12.EqualPoints'. -/
def equalPointsCard : Claim7 := { stood := { row := equalPointsRow, standIns := [], harness := (true, "3b611d3197cafd7ecf28a4c1ad93d1d6f573c99c191c3cd047539df3a2a637dc"), looks := true }, kinds := [], alts := [], laidByText := true, laidKinds := [.data, .data, .data, .data, .sentinel, .sentinel, .pinned], laidTests := true, laidLooks := .later }
def EqualPointsCardSaid : Prop := Claim7.holds Tryz.pinned (.plain (OpenSpec.ofChange equalPointsSpec)) equalPointsCard

/-- THE SECOND FORM's CARD OF 'rosettalaw12.EqualKeys'. -/
def equalKeysUptoCard : Claim7 := { stood := { row := equalKeysUptoRow, standIns := [], harness := (true, "3b611d3197cafd7ecf28a4c1ad93d1d6f573c99c191c3cd047539df3a2a637dc"), looks := true }, kinds := [], alts := [], laidByText := true, laidKinds := [.data, .data, .data, .data, .sentinel, .sentinel, .pinned], laidTests := true, laidLooks := .later }
def EqualKeysUptoCardSaid : Prop := Claim7.holds Tryz.pinned (.plain (OpenSpec.upto equalKeysSpec)) equalKeysUptoCard

/-- THE SECOND FORM's CARD OF 'rosettalaw12.EqualPoints'. -/
def equalPointsUptoCard : Claim7 := { stood := { row := equalPointsUptoRow, standIns := [], harness := (true, "3b611d3197cafd7ecf28a4c1ad93d1d6f573c99c191c3cd047539df3a2a637dc"), looks := true }, kinds := [], alts := [], laidByText := true, laidKinds := [.data, .data, .data, .data, .sentinel, .sentinel, .pinned], laidTests := true, laidLooks := .later }
def EqualPointsUptoCardSaid : Prop := Claim7.holds Tryz.pinned (.plain (OpenSpec.upto equalPointsSpec)) equalPointsUptoCard
end Rows
end Go.Proofs.YtdbjhobkhjneeaaGreatDoor
