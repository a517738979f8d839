/-
What the library's functions ask of the package-level variables of Go's library that they read. No theorem about the program stands here.
-/
import GoSem.Core.World
import Derived.Lib.DecodeN
import Derived.Lib.LaidTab
import Derived.Lib.ItoaNum
set_option linter.all false
namespace Go.Ago
open Go
/-- Go's library's variables hold what they hold. -/
structure LibFact (w : World) : Prop where
  first : ∀ c, c < 256 → w.cell? ⟨1, c, none⟩ = some (.int .u8 (Lib.firstT c))
  accept : ∀ i, i < 16 → w.cell? ⟨2, 2 * i, none⟩ = some (.int .u8 (Lib.accLo i)) ∧ w.cell? ⟨2, 2 * i + 1, none⟩ = some (.int .u8 (Lib.accHi i))
  pow : ∃ t fz, w.heap[3]? = some (.cells (Lib.pow10Tab.map fun z => Value.int .u64 z).toArray t fz)
theorem cell_lift {w w' : World} (hc : ∀ (i : Nat) o, w.heap[i]? = some o → w'.heap[i]? = some o) {a : Addr} {v : Value} (h : w.cell? a = some v) : w'.cell? a = some v := by
  unfold World.cell? at h ⊢
  split at h
  · rename_i hh; rw [hc _ _ hh]; exact h
  · cases h
theorem LibFact.lift {w w' : World} (h : LibFact w) (hc : ∀ (i : Nat) o, w.heap[i]? = some o → w'.heap[i]? = some o) : LibFact w' :=
  ⟨fun c x => cell_lift hc (h.first c x), fun i x => ⟨cell_lift hc (h.accept i x).1, cell_lift hc (h.accept i x).2⟩, let ⟨t, fz, x⟩ := h.pow; ⟨t, fz, hc _ _ x⟩⟩
end Go.Ago
