/-
TomlDeep answers true for every number: by its forty sources.
-/
import Derived.Test.YtnkemhepkppkoaaGreatDoorV0
import Derived.Test.YtnkemhepkppkoaaGreatDoorV1
import Derived.Test.YtnkemhepkppkoaaGreatDoorV2
import Derived.Test.YtnkemhepkppkoaaGreatDoorV3
import Derived.Test.YtnkemhepkppkoaaGreatDoorV4
import Derived.Test.YtnkemhepkppkoaaGreatDoorV5
import Derived.Test.YtnkemhepkppkoaaGreatDoorV6
import Derived.Test.YtnkemhepkppkoaaGreatDoorV7
set_option linter.all false
namespace Go.Sh
open Go Go.Ago
theorem deep_cong (n : Nat) {a b : Int} (h : (IntKind.i64.wrap a).tmod 40 = (IntKind.i64.wrap b).tmod 40) : rosettalaw25_TomlDeep n a = rosettalaw25_TomlDeep n b := by
  unfold rosettalaw25_TomlDeep
  rw [h]
theorem mem_run {l : List Nat} (h : l.all (fun k => runZ (rosettalaw25_TomlDeep 100 k)) = true) {k : Nat} (hk : k ∈ l) : runZ (rosettalaw25_TomlDeep 100 k) = true := List.all_eq_true.1 h k hk
theorem deep_40 (k : Nat) (hk : k < 40) : runZ (rosettalaw25_TomlDeep 100 k) = true := by
  have h : k ∈ [1, 14, 17, 30, 33] ∨ k ∈ [2, 13, 18, 29, 34] ∨ k ∈ [3, 12, 19, 28, 35] ∨ k ∈ [4, 11, 20, 27, 36] ∨ k ∈ [5, 10, 21, 26, 37] ∨ k ∈ [6, 9, 22, 25, 38] ∨ k ∈ [7, 8, 23, 24, 39] ∨ k ∈ [0, 15, 16, 31, 32] := by
    simp only [List.mem_cons, List.not_mem_nil, or_false]
    omega
  rcases h with h | h | h | h | h | h | h | h
  · exact mem_run deep0 h
  · exact mem_run deep1 h
  · exact mem_run deep2 h
  · exact mem_run deep3 h
  · exact mem_run deep4 h
  · exact mem_run deep5 h
  · exact mem_run deep6 h
  · exact mem_run deep7 h
theorem deep_ok (a : Int) (h0 : 0 ≤ a) (h1 : a < 256) : ∃ h1, rosettalaw25_TomlDeep 100 a hZ = some (true, h1) := by
  have hw : ∀ x : Int, 0 ≤ x → x < 256 → IntKind.i64.wrap x = x := fun x _ _ => IntWalk.i64_in x (by omega)
  obtain ⟨m, rfl⟩ : ∃ m : Nat, a = m := ⟨a.toNat, by omega⟩
  rw [deep_cong 100 (b := ((m % 40 : Nat) : Int)) (by
    rw [hw _ h0 h1, hw _ (by omega) (by omega), Int.tmod_eq_emod_of_nonneg (by omega), Int.tmod_eq_emod_of_nonneg (by omega)]
    omega)]
  exact runZ_some (deep_40 (m % 40) (by omega))
theorem wf_u8 {n : Int} (h : (Lit.int .u8 n).wf = true) : 0 ≤ n ∧ n < 256 := by
  have e := Bool.and_eq_true_iff.1 h
  have h2 : n ≤ 255 := of_decide_eq_true e.2
  exact ⟨of_decide_eq_true e.1, by omega⟩
end Go.Sh
