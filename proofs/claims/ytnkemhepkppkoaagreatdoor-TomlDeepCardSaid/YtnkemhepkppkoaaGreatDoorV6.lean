/-
TomlDeep's answers for some of its forty sources, reckoned.
-/
import Derived.Test.YtnkemhepkppkoaaGreatDoorTl0
set_option maxRecDepth 1000000
set_option maxHeartbeats 0
set_option linter.all false
namespace Go.Sh
open Go Go.Ago
theorem deep6 : ([7, 8, 23, 24, 39] : List Nat).all (fun k => runZ (rosettalaw25_TomlDeep 100 k)) = true := by kernel_rfl
end Go.Sh
