/-
  DERIVED. GIVEN WITH THE SEED: THE CARDS: each row of YtmjkmdhbcmckgaaGreatDoorRows.lean that lists a variable, with what it lists TIED to the program's text (the seventh form; the later family's looks); each row that meets fmt, with fmt's text TOLD by the authors' own Lean function (tested against real Go, not proved from fmt's source: count such statements apart). THE CARD IS WHAT COUNTS. Prove the row's statement (the work); the ties are given (YtmjkmdhbcmckgaaGreatDoorTie.lean); close each card by the builder's one call (the guide's Derived/Test/ToyasCard.lean, 'card_holds'). Laid BY PROGRAM, IN A SANDBOX (cutbox-door.mjs). By AI agents, Wed Nov 11 2026. No macro, syntax, notation, axiom, sorry.
-/
import Derived.Test.YtmjkmdhbcmckgaaGreatDoorRows
import GoSem.ClaimSeven
namespace Go.Proofs.YtmjkmdhbcmckgaaGreatDoor
namespace Rows

/-- THE TIED CARD OF 'rosettalaw18.SpanNests'. -/
def spanNestsCard : Claim7 := { stood := { row := spanNestsRow, standIns := [], harness := (true, "d100c9fa5edebd6cb08bb3ea67fc76c256580d21a8d00146a0db1c4a8b2e66ca"), looks := true }, kinds := [], alts := [], laidByText := true, laidKinds := [.data, .data, .data, .data, .sentinel, .sentinel, .pinned], laidTests := true, laidLooks := .later }
def SpanNestsCardSaid : Prop := Claim7.holds Tryz.pinned (.plain (OpenSpec.ofChange spanNestsSpec)) spanNestsCard

/-- THE TIED CARD OF 'rosettalaw12.EqualRelates'. -/
def equalRelatesCard : Claim7 := { stood := { row := equalRelatesRow, standIns := [], harness := (true, "d100c9fa5edebd6cb08bb3ea67fc76c256580d21a8d00146a0db1c4a8b2e66ca"), looks := true }, kinds := [], alts := [], laidByText := true, laidKinds := [.data, .data, .data, .data, .sentinel, .sentinel, .pinned], laidTests := true, laidLooks := .later }
def EqualRelatesCardSaid : Prop := Claim7.holds Tryz.pinned (.plain (OpenSpec.ofChange equalRelatesSpec)) equalRelatesCard

/-- THE TIED CARD OF 'rosettalaw12.EqualNotices'. -/
def equalNoticesCard : Claim7 := { stood := { row := equalNoticesRow, standIns := [], harness := (true, "d100c9fa5edebd6cb08bb3ea67fc76c256580d21a8d00146a0db1c4a8b2e66ca"), looks := true }, kinds := [], alts := [], laidByText := true, laidKinds := [.data, .data, .data, .data, .sentinel, .sentinel, .pinned], laidTests := true, laidLooks := .later }
def EqualNoticesCardSaid : Prop := Claim7.holds Tryz.pinned (.plain (OpenSpec.ofChange equalNoticesSpec)) equalNoticesCard

/-- THE SECOND FORM's CARD OF 'rosettalaw18.SpanNests'. -/
def spanNestsUptoCard : Claim7 := { stood := { row := spanNestsUptoRow, standIns := [], harness := (true, "d100c9fa5edebd6cb08bb3ea67fc76c256580d21a8d00146a0db1c4a8b2e66ca"), looks := true }, kinds := [], alts := [], laidByText := true, laidKinds := [.data, .data, .data, .data, .sentinel, .sentinel, .pinned], laidTests := true, laidLooks := .later }
def SpanNestsUptoCardSaid : Prop := Claim7.holds Tryz.pinned (.plain (OpenSpec.upto spanNestsSpec)) spanNestsUptoCard

/-- THE SECOND FORM's CARD OF 'rosettalaw12.EqualRelates'. -/
def equalRelatesUptoCard : Claim7 := { stood := { row := equalRelatesUptoRow, standIns := [], harness := (true, "d100c9fa5edebd6cb08bb3ea67fc76c256580d21a8d00146a0db1c4a8b2e66ca"), looks := true }, kinds := [], alts := [], laidByText := true, laidKinds := [.data, .data, .data, .data, .sentinel, .sentinel, .pinned], laidTests := true, laidLooks := .later }
def EqualRelatesUptoCardSaid : Prop := Claim7.holds Tryz.pinned (.plain (OpenSpec.upto equalRelatesSpec)) equalRelatesUptoCard

/-- THE SECOND FORM's CARD OF 'rosettalaw12.EqualNotices'. -/
def equalNoticesUptoCard : Claim7 := { stood := { row := equalNoticesUptoRow, standIns := [], harness := (true, "d100c9fa5edebd6cb08bb3ea67fc76c256580d21a8d00146a0db1c4a8b2e66ca"), looks := true }, kinds := [], alts := [], laidByText := true, laidKinds := [.data, .data, .data, .data, .sentinel, .sentinel, .pinned], laidTests := true, laidLooks := .later }
def EqualNoticesUptoCardSaid : Prop := Claim7.holds Tryz.pinned (.plain (OpenSpec.upto equalNoticesSpec)) equalNoticesUptoCard
end Rows
end Go.Proofs.YtmjkmdhbcmckgaaGreatDoor
