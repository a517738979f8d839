/-
  DERIVED. GIVEN WITH THE SEED: THE CARDS: each row of YtpojbnjkkkiccaaGreatDoorRows.lean that lists a variable, with what it lists TIED to the program's text (the seventh form; the later family's looks); each row that meets fmt, with fmt's text TOLD by the authors' own Lean function (tested against real Go, not proved from fmt's source: count such statements apart). THE CARD IS WHAT COUNTS. Prove the row's statement (the work); the ties are given (YtpojbnjkkkiccaaGreatDoorTie.lean); close each card by the builder's one call (the guide's Derived/Test/ToyasCard.lean, 'card_holds'). Laid BY PROGRAM, IN A SANDBOX (cutbox-door.mjs). By AI agents, Wed Nov 11 2026. No macro, syntax, notation, axiom, sorry.
-/
import Derived.Test.YtpojbnjkkkiccaaGreatDoorRows
import GoSem.ClaimSeven
namespace Go.Proofs.YtpojbnjkkkiccaaGreatDoor
namespace Rows

/-- THE TIED CARD OF 'rosettalaw13.ShareTrees'. -/
def shareTreesCard : Claim7 := { stood := { row := shareTreesRow, standIns := [], harness := (true, "a915fccf314e561d5552950d022ff8026d05983473f483255cb616c29193f410"), looks := true }, kinds := [], alts := [], laidByText := true, laidKinds := [.data, .data, .data, .data, .sentinel, .sentinel, .pinned], laidTests := true, laidLooks := .later }
def ShareTreesCardSaid : Prop := Claim7.holds Tryz.pinned (.plain (OpenSpec.ofChange shareTreesSpec)) shareTreesCard

/-- THE SECOND FORM's CARD OF 'rosettalaw13.ShareTrees'. -/
def shareTreesUptoCard : Claim7 := { stood := { row := shareTreesUptoRow, standIns := [], harness := (true, "a915fccf314e561d5552950d022ff8026d05983473f483255cb616c29193f410"), looks := true }, kinds := [], alts := [], laidByText := true, laidKinds := [.data, .data, .data, .data, .sentinel, .sentinel, .pinned], laidTests := true, laidLooks := .later }
def ShareTreesUptoCardSaid : Prop := Claim7.holds Tryz.pinned (.plain (OpenSpec.upto shareTreesSpec)) shareTreesUptoCard
end Rows
end Go.Proofs.YtpojbnjkkkiccaaGreatDoor
