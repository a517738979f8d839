/-
  DERIVED. GIVEN WITH THE SEED: THE CARDS: each row of YtcgicpibdffpfaaDoorRows.lean that lists a variable, with what it lists TIED to the program's text (the seventh form; the later family's looks); each row that meets fmt, with fmt's text TOLD by the authors' own Lean function (tested against real Go, not proved from fmt's source: count such statements apart). THE CARD IS WHAT COUNTS. Prove the row's statement (the work); the ties are given (YtcgicpibdffpfaaDoorTie.lean); close each card by the builder's one call (the guide's Derived/Test/ToyasCard.lean, 'card_holds'). Laid BY PROGRAM, IN A SANDBOX (cutbox-door.mjs). By AI agents, Wed Nov 11 2026. No macro, syntax, notation, axiom, sorry.
-/
import Derived.Test.YtcgicpibdffpfaaDoorRows
import GoSem.ClaimSeven
namespace Go.Proofs.YtcgicpibdffpfaaDoor
namespace Rows

/-- THE TIED CARD OF 'rosettalaw34.BencodeParses'. -/
def bencodeParsesCard : Claim7 := { stood := { row := bencodeParsesRow, standIns := [], harness := (true, "90744f71fcacc68eacb3d1b98f0bfbe2349ebd3eb1e71999b0f0cb2a21732385"), looks := true }, kinds := [], alts := [], laidByText := true, laidKinds := [.data, .data, .data, .data, .sentinel, .sentinel, .pinned], laidTests := true, laidLooks := .later }
def BencodeParsesCardSaid : Prop := Claim7.holds Tryd.pinned (.plain (OpenSpec.ofChange bencodeParsesSpec)) bencodeParsesCard

/-- THE TIED CARD OF 'rosettalaw34.BencodePrefixes'. -/
def bencodePrefixesCard : Claim7 := { stood := { row := bencodePrefixesRow, standIns := [], harness := (true, "90744f71fcacc68eacb3d1b98f0bfbe2349ebd3eb1e71999b0f0cb2a21732385"), looks := true }, kinds := [], alts := [], laidByText := true, laidKinds := [.data, .data, .data, .data, .sentinel, .sentinel, .pinned], laidTests := true, laidLooks := .later }
def BencodePrefixesCardSaid : Prop := Claim7.holds Tryd.pinned (.plain (OpenSpec.ofChange bencodePrefixesSpec)) bencodePrefixesCard

/-- THE TIED CARD OF 'rosettalaw34.BencodeLimits'. -/
def bencodeLimitsCard : Claim7 := { stood := { row := bencodeLimitsRow, standIns := [], harness := (true, "90744f71fcacc68eacb3d1b98f0bfbe2349ebd3eb1e71999b0f0cb2a21732385"), looks := true }, kinds := [], alts := [], laidByText := true, laidKinds := [.data, .data, .data, .data, .sentinel, .sentinel, .pinned], laidTests := true, laidLooks := .later }
def BencodeLimitsCardSaid : Prop := Claim7.holds Tryd.pinned (.plain (OpenSpec.ofChange bencodeLimitsSpec)) bencodeLimitsCard

/-- THE SECOND FORM's CARD OF 'rosettalaw34.BencodeParses'. -/
def bencodeParsesUptoCard : Claim7 := { stood := { row := bencodeParsesUptoRow, standIns := [], harness := (true, "90744f71fcacc68eacb3d1b98f0bfbe2349ebd3eb1e71999b0f0cb2a21732385"), looks := true }, kinds := [], alts := [], laidByText := true, laidKinds := [.data, .data, .data, .data, .sentinel, .sentinel, .pinned], laidTests := true, laidLooks := .later }
def BencodeParsesUptoCardSaid : Prop := Claim7.holds Tryd.pinned (.plain (OpenSpec.upto bencodeParsesSpec)) bencodeParsesUptoCard

/-- THE SECOND FORM's CARD OF 'rosettalaw34.BencodePrefixes'. -/
def bencodePrefixesUptoCard : Claim7 := { stood := { row := bencodePrefixesUptoRow, standIns := [], harness := (true, "90744f71fcacc68eacb3d1b98f0bfbe2349ebd3eb1e71999b0f0cb2a21732385"), looks := true }, kinds := [], alts := [], laidByText := true, laidKinds := [.data, .data, .data, .data, .sentinel, .sentinel, .pinned], laidTests := true, laidLooks := .later }
def BencodePrefixesUptoCardSaid : Prop := Claim7.holds Tryd.pinned (.plain (OpenSpec.upto bencodePrefixesSpec)) bencodePrefixesUptoCard

/-- THE SECOND FORM's CARD OF 'rosettalaw34.BencodeLimits'. -/
def bencodeLimitsUptoCard : Claim7 := { stood := { row := bencodeLimitsUptoRow, standIns := [], harness := (true, "90744f71fcacc68eacb3d1b98f0bfbe2349ebd3eb1e71999b0f0cb2a21732385"), looks := true }, kinds := [], alts := [], laidByText := true, laidKinds := [.data, .data, .data, .data, .sentinel, .sentinel, .pinned], laidTests := true, laidLooks := .later }
def BencodeLimitsUptoCardSaid : Prop := Claim7.holds Tryd.pinned (.plain (OpenSpec.upto bencodeLimitsSpec)) bencodeLimitsUptoCard
end Rows
end Go.Proofs.YtcgicpibdffpfaaDoor
