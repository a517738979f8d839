/-
  DERIVED. GIVEN WITH THE SEED: THE CARDS: each row of YtcdofopdlaebaaaGreatDoorRows.lean that lists a variable, with what it lists TIED to the program's text (the seventh form; the later family's looks); each row that meets fmt, with fmt's text TOLD by the authors' own Lean function (tested against real Go, not proved from fmt's source: count such statements apart). THE CARD IS WHAT COUNTS. Prove the row's statement (the work); the ties are given (YtcdofopdlaebaaaGreatDoorTie.lean); close each card by the builder's one call (the guide's Derived/Test/ToyasCard.lean, 'card_holds'). Laid BY PROGRAM, IN A SANDBOX (cutbox-door.mjs). By AI agents, Wed Nov 11 2026. No macro, syntax, notation, axiom, sorry.
-/
import Derived.Test.YtcdofopdlaebaaaGreatDoorRows
import GoSem.ClaimSeven
namespace Go.Proofs.YtcdofopdlaebaaaGreatDoor
namespace Rows

/-- THE TIED CARD OF 'rosettalaw12.EqualRelates'. -/
def equalRelatesCard : Claim7 := { stood := { row := equalRelatesRow, standIns := [], harness := (true, "505aa1bf64cf4a695e43d03dc0438e04385e38ed2df0795f73ed300f50436c42"), looks := true }, kinds := [], alts := [], laidByText := true, laidKinds := [.data, .data, .data, .data, .sentinel, .sentinel, .pinned], laidTests := true, laidLooks := .later }
def EqualRelatesCardSaid : Prop := Claim7.holds Tryz.pinned (.plain (OpenSpec.ofChange equalRelatesSpec)) equalRelatesCard

/-- THE SECOND FORM's CARD OF 'rosettalaw12.EqualRelates'. -/
def equalRelatesUptoCard : Claim7 := { stood := { row := equalRelatesUptoRow, standIns := [], harness := (true, "505aa1bf64cf4a695e43d03dc0438e04385e38ed2df0795f73ed300f50436c42"), looks := true }, kinds := [], alts := [], laidByText := true, laidKinds := [.data, .data, .data, .data, .sentinel, .sentinel, .pinned], laidTests := true, laidLooks := .later }
def EqualRelatesUptoCardSaid : Prop := Claim7.holds Tryz.pinned (.plain (OpenSpec.upto equalRelatesSpec)) equalRelatesUptoCard
end Rows
end Go.Proofs.YtcdofopdlaebaaaGreatDoor
