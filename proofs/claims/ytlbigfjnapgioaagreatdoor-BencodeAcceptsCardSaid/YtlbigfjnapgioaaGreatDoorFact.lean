/-
What the library's functions ask of the package-level variables of Go's library that they read. No theorem about the program stands here.
-/
import GoSem.Core.World
import Derived.Lib.DecodeN
set_option linter.all false
namespace Go.Ago
open Go
/-- Go's library's variables hold what they hold. -/
structure LibFact (w : World) : Prop where
  first : ∀ c, c < 256 → w.cell? ⟨0, c, none⟩ = some (.int .u8 (Lib.firstT c))
  accept : ∀ i, i < 16 → w.cell? ⟨1, 2 * i, none⟩ = some (.int .u8 (Lib.accLo i)) ∧ w.cell? ⟨1, 2 * i + 1, none⟩ = some (.int .u8 (Lib.accHi i))
  esyn : ∃ ev, w.cell? ⟨4, 0, none⟩ = some ev ∧ (ev = .nilIface ∨ ∃ te pe, ev = .iface te pe)
  erng : ∃ ev, w.cell? ⟨5, 0, none⟩ = some ev ∧ (ev = .nilIface ∨ ∃ te pe, ev = .iface te pe)
end Go.Ago
