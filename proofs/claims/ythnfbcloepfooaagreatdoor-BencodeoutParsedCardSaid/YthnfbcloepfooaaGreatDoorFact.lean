/-
What the library's functions ask of the package-level variables of Go's library that they read. No theorem about the program stands here.
-/
import Derived.Lib.LaidTab
import Derived.Lib.DecodeN
import Derived.Lib.ItoaNum
namespace Go.Ago
open Go
/-- Go's library's variables hold what they hold. -/
structure jz (w : World) : Prop where
  first : ∀c, c < 256 -> w.cell? ⟨0, c, none⟩ = some (.int .u8 (Lib.firstT c))
  accept : ∀i, i < 16 -> w.cell? ⟨1, 2*i, none⟩ = some (.int .u8 (Lib.accLo i)) /\ w.cell? ⟨1, 2*i+1, none⟩ = some (.int .u8 (Lib.accHi i))
  YV : ∃ev, w.cell? ⟨4, 0, none⟩ = some ev /\ (ev = .nilIface \/ ∃te pe, ev = .iface te pe)
  XC : ∃ev, w.cell? ⟨5, 0, none⟩ = some ev /\ (ev = .nilIface \/ ∃te pe, ev = .iface te pe)
  pow : ∃t fz, w.heap[6]? = some (.cells (Lib.pow10Tab.map λz => Value.int .u64 z).toArray t fz)
theorem ua {w w' : World} (hc : ∀(i : Nat) o, w.heap[i]? = some o -> w'.heap[i]? = some o) {a : Addr} {v : Value} (h : w.cell? a = some v) : w'.cell? a = some v :=by
  unfold World.cell? at h⊢;split at h
  · rename_i hh; rw[hc _ _ hh]; exact h
  · cases h
theorem jz.lift {w w' : World} (h : jz w) (hc : ∀(i : Nat) o, w.heap[i]? = some o -> w'.heap[i]? = some o) : jz w':=
  ⟨λc x => ua hc (h.first c x), λi x => ⟨ua hc (h.accept i x).1, ua hc (h.accept i x).2⟩, h.YV.imp λ_ x => ⟨ua hc x.1, x.2⟩, h.XC.imp λ_ x => ⟨ua hc x.1, x.2⟩,
    let ⟨t, fz, x⟩ := h.pow; ⟨t, fz, hc _ _ x⟩⟩
end Go.Ago
