/-
What the rows' list of package-level variables gives, and a world for the witness.
-/
import Derived.Test.YtnkemhepkppkoaaGreatDoorCards
import Derived.Test.YtnkemhepkppkoaaGreatDoorTie
import Derived.Test.YtnkemhepkppkoaaGreatDoorAgoK
import Derived.Test.YtnkemhepkppkoaaGreatDoorShelf
import Derived.WalkKit
import Derived.ProofKit
import Derived.OpenShut
import Derived.ChangeMaps5
import Derived.Deep.DeepHandedRow
import Derived.Deep.DeepWitnessRowRef
import Derived.Lib.LaidTab
import Derived.Lib.LaidU8T
import Derived.PinnedBridge
import Derived.Stop.LaidErr
set_option linter.all false
namespace Go.Proofs.YtnkemhepkppkoaaGreatDoor
open Go.ChangeShapes Go.WideShapes Go.ChangeAt Go.RowKit Go.Shelf Go.Lib Go.Ago

theorem own : ownKnob Tryz.prog.godebug = none := by kernel_rfl
def u8ren : Ren := ⟨fun n => n, fun | 5 => 5 | 119 => 195 | 138 => 197 | 139 => 198 | n => n, fun | 3 => 1 | 4 => 2 | n => n⟩
theorem u8types : U8Types Tryz.prog u8ren := ⟨by kernel_rfl, by kernel_rfl, by kernel_rfl, by kernel_rfl⟩
theorem u8extra : U8Extra Tryz.prog u8ren := ⟨by kernel_rfl, by kernel_rfl, by kernel_rfl, by kernel_rfl, by kernel_rfl, by kernel_rfl, by kernel_rfl⟩
theorem accept_eq : (Rows.laid_unicode_utf8_acceptRanges : DataW Unit) = acceptData := by kernel_rfl
theorem pow_eq : (Rows.laid_internal_strconv_uint64pow10 : DataW Unit) = tabData .u64 Lib.pow10Tab := by kernel_rfl
theorem var_heap {P : Program} {w : World} {n : String} {g : Nat} {cs : Array Value} (hg : P.globalNamed n = some g) (h : w.var? P n = some cs) : ∃ t fz, w.heap[g]? = some (.cells cs t fz) := by
  simp only [World.var?, hg, Option.bind_some] at h
  split at h
  · rename_i cs' t fz hh; cases h; exact ⟨t, fz, hh⟩
  · cases h
theorem laid_eq {W : World} (h : laidMetH Tryz.prog Rows.tomlDeepRow.laid W) : laidMet Tryz.prog Rows.tomlDeepRow.laid W := h
theorem libfact {W : World} (h : laidMetH Tryz.prog Rows.tomlDeepRow.laid W) : LibFact W := by
  have h := laid_eq h
  have t := utf8Tabs_of_readsT u8types u8extra (w := W) (by
    rw [← Pinned.utf8First_eq]
    exact laidMet.reads h (by simp [Rows.tomlDeepRow, Rows.laid_unicode_utf8_first])) (by
    rw [← accept_eq]
    exact laidMet.reads h (by simp [Rows.tomlDeepRow]))
  have rp : VarReads Tryz.prog W "internal/strconv.uint64pow10" (tabData .u64 Lib.pow10Tab) := by
    rw [← pow_eq]; exact laidMet.reads h (by simp [Rows.tomlDeepRow])
  have hp : ∃ tp fz, W.heap[3]? = some (.cells (Lib.pow10Tab.map fun z => Value.int .u64 z).toArray tp fz) := by
    obtain ⟨g, tt, cs, fuel, p, hg, hty, hvar, hd⟩ := rp
    obtain rfl := Option.some.inj ((show Tryz.prog.globalNamed "internal/strconv.uint64pow10" = some 3 by kernel_rfl).symm.trans hg)
    obtain rfl := Option.some.inj ((show (Tryz.prog.globals[3]?).map (·.type) = some 259 by kernel_rfl).symm.trans hty)
    have hcs := cells_of_tab Tryz.underlying259 Tryz.underlying115 (by kernel_rfl) (by kernel_rfl) hd
    obtain ⟨t2, fz, e⟩ := var_heap hg hvar
    refine ⟨t2, fz, ?_⟩
    rw [e, ← hcs]
  exact ⟨t.1, t.2, hp⟩
/-- The cells that a datum of numbers takes. -/
def cellsD : Nat → DataW Unit → List Value
  | n + 1, .lit (.int k z) => [.int k z]
  | n + 1, .agg l => l.flatMap (cellsD n)
  | _, _ => []
def setCells (cs : List Value) : Obj → Obj
  | .cells _ t fr => .cells cs.toArray t fr
  | o => o
noncomputable def laidWorld (os : Os) : World :=
  let w0 := World.holding Tryz.prog os ⟨#[], #[], []⟩
  { w0 with heap := ((((w0.heap.modify 1 (setCells (cellsD 4 Rows.laid_unicode_utf8_first))).modify 2 (setCells (cellsD 4 Rows.laid_unicode_utf8_acceptRanges))).modify 3 (setCells (cellsD 4 Rows.laid_internal_strconv_uint64pow10))).modify 4 (setCells (cellsD 4 Rows.laid_math_bits_deBruijn32tab))).modify 5 (setCells (cellsD 4 Rows.laid_math_bits_deBruijn64tab)) }
set_option maxRecDepth 100000 in
theorem laid_met (os : Os) (args : Array Value) : laidMet Tryz.prog Rows.tomlDeepRow.laid ((laidWorld os).forCall (fun _ _ => 0) ⟨#[], args, []⟩).memory :=
  laidMet_of_run' 8 (by kernel_rfl) (by kernel_rfl)
end Go.Proofs.YtnkemhepkppkoaaGreatDoor
