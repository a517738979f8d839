/-
  DERIVED. GIVEN WITH THE SEED: THE CARDS: each row of YtlbigfjnapgioaaGreatDoorRows.lean that lists a variable, with what it lists TIED to the program's text (the seventh form; the later family's looks); each row that meets fmt, with fmt's text TOLD by the authors' own Lean function (tested against real Go, not proved from fmt's source: count such statements apart). THE CARD IS WHAT COUNTS. Prove the row's statement (the work); the ties are given (YtlbigfjnapgioaaGreatDoorTie.lean); close each card by the builder's one call (the guide's Derived/Test/ToyasCard.lean, 'card_holds'). Laid BY PROGRAM, IN A SANDBOX (cutbox-door.mjs). By AI agents, Wed Nov 11 2026. No macro, syntax, notation, axiom, sorry.
-/
import Derived.Test.YtlbigfjnapgioaaGreatDoorRows
import GoSem.ClaimSeven
namespace Go.Proofs.YtlbigfjnapgioaaGreatDoor
namespace Rows

/-- THE TIED CARD OF 'rosettalaw34.BencodeSpans'. -/
def bencodeSpansCard : Claim7 := { stood := { row := bencodeSpansRow, standIns := [], harness := (true, "74322f1fc2962bb7391e3488f0c5bb201191ba403199e1425f859ee9ae5c03d5"), looks := true }, kinds := [], alts := [], laidByText := true, laidKinds := [.data, .data, .data, .data, .sentinel, .sentinel, .pinned], laidTests := true, laidLooks := .later }
def BencodeSpansCardSaid : Prop := Claim7.holds Tryz.pinned (.plain (OpenSpec.ofChange bencodeSpansSpec)) bencodeSpansCard

/-- THE TIED CARD OF 'rosettalaw34.BencodeReads'. -/
def bencodeReadsCard : Claim7 := { stood := { row := bencodeReadsRow, standIns := [], harness := (true, "74322f1fc2962bb7391e3488f0c5bb201191ba403199e1425f859ee9ae5c03d5"), looks := true }, kinds := [], alts := [], laidByText := true, laidKinds := [.data, .data, .data, .data, .sentinel, .sentinel, .pinned], laidTests := true, laidLooks := .later }
def BencodeReadsCardSaid : Prop := Claim7.holds Tryz.pinned (.plain (OpenSpec.ofChange bencodeReadsSpec)) bencodeReadsCard

/-- THE TIED CARD OF 'rosettalaw34.BencodeAccepts'. -/
def bencodeAcceptsCard : Claim7 := { stood := { row := bencodeAcceptsRow, standIns := [], harness := (true, "74322f1fc2962bb7391e3488f0c5bb201191ba403199e1425f859ee9ae5c03d5"), looks := true }, kinds := [], alts := [], laidByText := true, laidKinds := [.data, .data, .data, .data, .sentinel, .sentinel, .pinned], laidTests := true, laidLooks := .later }
def BencodeAcceptsCardSaid : Prop := Claim7.holds Tryz.pinned (.plain (OpenSpec.ofChange bencodeAcceptsSpec)) bencodeAcceptsCard

/-- THE TIED CARD OF 'rosettalaw35.BencodeoutParsed'. -/
def bencodeoutParsedCard : Claim7 := { stood := { row := bencodeoutParsedRow, standIns := [], harness := (true, "74322f1fc2962bb7391e3488f0c5bb201191ba403199e1425f859ee9ae5c03d5"), looks := true }, kinds := [], alts := [], laidByText := true, laidKinds := [.data, .data, .data, .data, .sentinel, .sentinel, .pinned], laidTests := true, laidLooks := .later }
def BencodeoutParsedCardSaid : Prop := Claim7.holds Tryz.pinned (.plain (OpenSpec.ofChange bencodeoutParsedSpec)) bencodeoutParsedCard

/-- THE SECOND FORM's CARD OF 'rosettalaw34.BencodeSpans'. -/
def bencodeSpansUptoCard : Claim7 := { stood := { row := bencodeSpansUptoRow, standIns := [], harness := (true, "74322f1fc2962bb7391e3488f0c5bb201191ba403199e1425f859ee9ae5c03d5"), looks := true }, kinds := [], alts := [], laidByText := true, laidKinds := [.data, .data, .data, .data, .sentinel, .sentinel, .pinned], laidTests := true, laidLooks := .later }
def BencodeSpansUptoCardSaid : Prop := Claim7.holds Tryz.pinned (.plain (OpenSpec.upto bencodeSpansSpec)) bencodeSpansUptoCard

/-- THE SECOND FORM's CARD OF 'rosettalaw34.BencodeReads'. -/
def bencodeReadsUptoCard : Claim7 := { stood := { row := bencodeReadsUptoRow, standIns := [], harness := (true, "74322f1fc2962bb7391e3488f0c5bb201191ba403199e1425f859ee9ae5c03d5"), looks := true }, kinds := [], alts := [], laidByText := true, laidKinds := [.data, .data, .data, .data, .sentinel, .sentinel, .pinned], laidTests := true, laidLooks := .later }
def BencodeReadsUptoCardSaid : Prop := Claim7.holds Tryz.pinned (.plain (OpenSpec.upto bencodeReadsSpec)) bencodeReadsUptoCard

/-- THE SECOND FORM's CARD OF 'rosettalaw34.BencodeAccepts'. -/
def bencodeAcceptsUptoCard : Claim7 := { stood := { row := bencodeAcceptsUptoRow, standIns := [], harness := (true, "74322f1fc2962bb7391e3488f0c5bb201191ba403199e1425f859ee9ae5c03d5"), looks := true }, kinds := [], alts := [], laidByText := true, laidKinds := [.data, .data, .data, .data, .sentinel, .sentinel, .pinned], laidTests := true, laidLooks := .later }
def BencodeAcceptsUptoCardSaid : Prop := Claim7.holds Tryz.pinned (.plain (OpenSpec.upto bencodeAcceptsSpec)) bencodeAcceptsUptoCard

/-- THE SECOND FORM's CARD OF 'rosettalaw35.BencodeoutParsed'. -/
def bencodeoutParsedUptoCard : Claim7 := { stood := { row := bencodeoutParsedUptoRow, standIns := [], harness := (true, "74322f1fc2962bb7391e3488f0c5bb201191ba403199e1425f859ee9ae5c03d5"), looks := true }, kinds := [], alts := [], laidByText := true, laidKinds := [.data, .data, .data, .data, .sentinel, .sentinel, .pinned], laidTests := true, laidLooks := .later }
def BencodeoutParsedUptoCardSaid : Prop := Claim7.holds Tryz.pinned (.plain (OpenSpec.upto bencodeoutParsedSpec)) bencodeoutParsedUptoCard
end Rows
end Go.Proofs.YtlbigfjnapgioaaGreatDoor
