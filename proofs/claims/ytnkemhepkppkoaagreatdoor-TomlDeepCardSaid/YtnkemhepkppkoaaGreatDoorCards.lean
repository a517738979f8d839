/-
  DERIVED. GIVEN WITH THE SEED: THE CARDS: each row of YtnkemhepkppkoaaGreatDoorRows.lean that lists a variable, with what it lists TIED to the program's text (the seventh form; the later family's looks); each row that meets fmt, with fmt's text TOLD by the authors' own Lean function (tested against real Go, not proved from fmt's source: count such statements apart). THE CARD IS WHAT COUNTS. Prove the row's statement (the work); the ties are given (YtnkemhepkppkoaaGreatDoorTie.lean); close each card by the builder's one call (the guide's Derived/Test/ToyasCard.lean, 'card_holds'). Laid BY PROGRAM, IN A SANDBOX (cutbox-door.mjs). By AI agents, Wed Nov 11 2026. No macro, syntax, notation, axiom, sorry.
-/
import Derived.Test.YtnkemhepkppkoaaGreatDoorRows
import GoSem.ClaimSeven
namespace Go.Proofs.YtnkemhepkppkoaaGreatDoor
namespace Rows

/-- THE TIED CARD OF 'rosettalaw25.TomlDeep'. -/
def tomlDeepCard : Claim7 := { stood := { row := tomlDeepRow, standIns := [], harness := (true, "6c1983fa5ba24962f6fadae0706beeb5b1b76b6f822a82a1e0a26989e75469b9"), looks := true }, kinds := [], alts := [], laidByText := true, laidKinds := [.data, .data, .data, .data, .pinned], laidTests := true, laidLooks := .later }
def TomlDeepCardSaid : Prop := Claim7.holds Tryz.pinned (.plain (OpenSpec.ofChange tomlDeepSpec)) tomlDeepCard

/-- THE TIED CARD OF 'rosettalaw25.TomlSpaces'. -/
def tomlSpacesCard : Claim7 := { stood := { row := tomlSpacesRow, standIns := [], harness := (true, "6c1983fa5ba24962f6fadae0706beeb5b1b76b6f822a82a1e0a26989e75469b9"), looks := true }, kinds := [], alts := [], laidByText := true, laidKinds := [.data, .data, .data, .data, .pinned], laidTests := true, laidLooks := .later }
def TomlSpacesCardSaid : Prop := Claim7.holds Tryz.pinned (.plain (OpenSpec.ofChange tomlSpacesSpec)) tomlSpacesCard

/-- THE TIED CARD OF 'rosettalaw25.TomlAtoms'. -/
def tomlAtomsCard : Claim7 := { stood := { row := tomlAtomsRow, standIns := [], harness := (true, "6c1983fa5ba24962f6fadae0706beeb5b1b76b6f822a82a1e0a26989e75469b9"), looks := true }, kinds := [], alts := [], laidByText := true, laidKinds := [.data, .data, .data, .data, .pinned], laidTests := true, laidLooks := .later }
def TomlAtomsCardSaid : Prop := Claim7.holds Tryz.pinned (.plain (OpenSpec.ofChange tomlAtomsSpec)) tomlAtomsCard

/-- THE TIED CARD OF 'rosettalaw25.TomlParses'. -/
def tomlParsesCard : Claim7 := { stood := { row := tomlParsesRow, standIns := [], harness := (true, "6c1983fa5ba24962f6fadae0706beeb5b1b76b6f822a82a1e0a26989e75469b9"), looks := true }, kinds := [], alts := [], laidByText := true, laidKinds := [.data, .data, .data, .data, .pinned], laidTests := true, laidLooks := .later }
def TomlParsesCardSaid : Prop := Claim7.holds Tryz.pinned (.plain (OpenSpec.ofChange tomlParsesSpec)) tomlParsesCard

/-- THE SECOND FORM's CARD OF 'rosettalaw25.TomlDeep'. -/
def tomlDeepUptoCard : Claim7 := { stood := { row := tomlDeepUptoRow, standIns := [], harness := (true, "6c1983fa5ba24962f6fadae0706beeb5b1b76b6f822a82a1e0a26989e75469b9"), looks := true }, kinds := [], alts := [], laidByText := true, laidKinds := [.data, .data, .data, .data, .pinned], laidTests := true, laidLooks := .later }
def TomlDeepUptoCardSaid : Prop := Claim7.holds Tryz.pinned (.plain (OpenSpec.upto tomlDeepSpec)) tomlDeepUptoCard

/-- THE SECOND FORM's CARD OF 'rosettalaw25.TomlSpaces'. -/
def tomlSpacesUptoCard : Claim7 := { stood := { row := tomlSpacesUptoRow, standIns := [], harness := (true, "6c1983fa5ba24962f6fadae0706beeb5b1b76b6f822a82a1e0a26989e75469b9"), looks := true }, kinds := [], alts := [], laidByText := true, laidKinds := [.data, .data, .data, .data, .pinned], laidTests := true, laidLooks := .later }
def TomlSpacesUptoCardSaid : Prop := Claim7.holds Tryz.pinned (.plain (OpenSpec.upto tomlSpacesSpec)) tomlSpacesUptoCard

/-- THE SECOND FORM's CARD OF 'rosettalaw25.TomlAtoms'. -/
def tomlAtomsUptoCard : Claim7 := { stood := { row := tomlAtomsUptoRow, standIns := [], harness := (true, "6c1983fa5ba24962f6fadae0706beeb5b1b76b6f822a82a1e0a26989e75469b9"), looks := true }, kinds := [], alts := [], laidByText := true, laidKinds := [.data, .data, .data, .data, .pinned], laidTests := true, laidLooks := .later }
def TomlAtomsUptoCardSaid : Prop := Claim7.holds Tryz.pinned (.plain (OpenSpec.upto tomlAtomsSpec)) tomlAtomsUptoCard

/-- THE SECOND FORM's CARD OF 'rosettalaw25.TomlParses'. -/
def tomlParsesUptoCard : Claim7 := { stood := { row := tomlParsesUptoRow, standIns := [], harness := (true, "6c1983fa5ba24962f6fadae0706beeb5b1b76b6f822a82a1e0a26989e75469b9"), looks := true }, kinds := [], alts := [], laidByText := true, laidKinds := [.data, .data, .data, .data, .pinned], laidTests := true, laidLooks := .later }
def TomlParsesUptoCardSaid : Prop := Claim7.holds Tryz.pinned (.plain (OpenSpec.upto tomlParsesSpec)) tomlParsesUptoCard
end Rows
end Go.Proofs.YtnkemhepkppkoaaGreatDoor
