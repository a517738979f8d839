/-
What the library's functions ask of the package-level variables of Go's library that they read. No theorem about the program stands here.
-/
import Derived.Lib.DecodeN
import Derived.Lib.LaidTab
import Derived.Lib.ItoaNum
set_option linter.all false
namespace Go.Ago
open Go
def Lg : List Nat := [0, 1, 56, 2, 57, 49, 28, 3, 61, 58, 42, 50, 38, 29, 17, 4, 62, 47, 59, 36, 45, 43, 51, 22, 53, 39, 33, 30, 24, 18, 12, 5, 63, 55, 48, 27, 60, 41, 37, 16, 46, 35, 44, 21, 52, 32, 23, 11, 54, 26, 40, 15, 34, 20, 31, 10, 25, 14, 19, 9, 13, 8, 7, 6]
def M5 (i : Nat) : Nat := Lg.getD i 0
/-- Go's library's variables hold what they hold. -/
structure lr (w : World) : Prop where
  first : ∀c, c < 256 -> w.cell? ⟨1, c, none⟩ = some (.int .u8 (Lib.firstT c))
  accept : ∀i, i < 16 -> w.cell? ⟨2, 2*i, none⟩ = some (.int .u8 (Lib.accLo i)) /\ w.cell? ⟨2, 2*i+1, none⟩ = some (.int .u8 (Lib.accHi i))
  ah6 : ∃ev, w.cell? ⟨4, 0, none⟩ = some ev /\ (ev = .nilIface \/ ∃te pe, ev = .iface te pe)
  ah7 : ∃ev, w.cell? ⟨5, 0, none⟩ = some ev /\ (ev = .nilIface \/ ∃te pe, ev = .iface te pe)
  pow : ∃t fz, w.heap[7]? = some (.cells (Lib.pow10Tab.map λz => Value.int .u64 z).toArray t fz)
  deb : ∀i, i < 64 -> w.cell? ⟨6, i, none⟩ = some (.int .u8 (M5 i))
def wR {w w' : World} (hc : ∀(i : Nat) o, w.heap[i]? = some o -> w'.heap[i]? = some o) {a : Addr} {v : Value} (h : w.cell? a = some v) : w'.cell? a = some v :=by
  unfold World.cell? at h⊢;split at h
  · rename_i hh; rw[hc _ _ hh]; exact h
  · cases h
def lr.lift {w w' : World} (h : lr w) (hc : ∀(i : Nat) o, w.heap[i]? = some o -> w'.heap[i]? = some o) : lr w':=
  ⟨λc x => wR hc (h.first c x), λi x => ⟨wR hc (h.accept i x).1, wR hc (h.accept i x).2⟩, h.ah6.imp λ_ x => ⟨wR hc x.1, x.2⟩, h.ah7.imp λ_ x => ⟨wR hc x.1, x.2⟩,
    let ⟨t, fz, x⟩ := h.pow; ⟨t, fz, hc _ _ x⟩, λi x => wR hc (h.deb i x)⟩
end Go.Ago
