/-
The law's examples: the program's answers to them, reckoned. The examples' function answers true in every world.
-/
import Derived.Test.YtnkemhepkppkoaaGreatDoorSl0
import Derived.Test.YtnkemhepkppkoaaGreatDoorAgoK
set_option maxRecDepth 1000000
set_option maxHeartbeats 0
set_option linter.all false
namespace Go.Sh
open Go Go.Ago Go.Proofs
/-- The answer over the empty heap. -/
noncomputable def runZ (m : M Bool) : Bool := match m hZ with
  | some (x, _) => x
  | none => false
theorem runZ_some {m : M Bool} (h : runZ m = true) : ∃ h1, m hZ = some (true, h1) := by
  unfold runZ at h
  cases e : m hZ with
  | none => rw [e] at h; cases h
  | some p => obtain ⟨x, h1⟩ := p; rw [e] at h; simp only at h; subst h; exact ⟨h1, rfl⟩
theorem awake_run : runZ (rosettalaw25_awake 100) = true := by kernel_rfl
def awakeT (_ : Nat) : M Bool := M.pure true
theorem awakeT_ok (n : Nat) : FnOK Tryz.prog ⟨9, [], [tyB], fun _ => awakeT n⟩ :=
  let ⟨_, hm⟩ := runZ_some awake_run
  pure_hZ (rosettalaw25_awake_ok 100) (fun args w => enter_ok (fn := Tryz.f9) (by kernel_rfl) (by kernel_rfl) (by kernel_rfl) args w) hm
end Go.Sh
