/-
The shallow functions of this seat, part 0, and that each is sound; written by program. No theorem about what they compute stands here.
-/
import Derived.Test.YtnkemhepkppkoaaGreatDoorPu
set_option maxRecDepth 100000
set_option maxHeartbeats 0
set_option linter.all false
namespace Go.Sh
open Go Go.Ago Go.Proofs
abbrev E0 (n : Nat) : List Ent := [⟨8, [.one (.str), .one (.int .i64)], [.one (.str)], fun x => strings_Repeat n (x.1) (x.2)⟩, ⟨9, [], [.one (.bool)], fun _ => awakeT n⟩, ⟨7, [.one (.str)], [.agg [.int .i64, .str, .sl, .int .i64, .sl, .sl], .one (.int .i64), .one (.int .i64)], fun x => toml_Parse n (x)⟩]
theorem N0 (n : Nat) : AllOK Tryz.prog (E0 n) := .cons (strings_Repeat_ok n) (.cons (awakeT_ok n) (.cons (toml_Parse_ok n) .nil))
def rosettalaw25_TomlDeep (n : Nat) (a0 : Int) : M (Bool) :=
  M.bind (ckM (decide (40 ≠ 0))) fun x0 =>
  M.bind (strings_Repeat n (ofBytes [91]) ((IntKind.i64.wrap a0).tmod 40)) fun x1 =>
  M.bind (catS (ofBytes [97, 32, 61, 32]) x1) fun x2 =>
  M.bind (strings_Repeat n (ofBytes [93]) ((IntKind.i64.wrap a0).tmod 40)) fun x3 =>
  M.bind (catS x2 x3) fun x4 =>
  M.bind (toml_Parse n x4) fun x5 =>
  M.bind (newB none T_api_Doc [vi 0, Value.string (ofBytes []), vsl0, vi 0, vsl0, vsl0]) fun x6 =>
  M.bind (stN (adr x6) [vi x5.1.1, Value.string x5.1.2.1, vsl x5.1.2.2.1, vi x5.1.2.2.2.1, vsl x5.1.2.2.2.2.1, vsl x5.1.2.2.2.2.2]) fun x7 =>
  if decide ((IntKind.i64.wrap a0).tmod 40 = 0) then
    M.bind (awakeT n) fun x8 =>
    if x8 then
      if decide (x5.2.2 = 4) then
        M.pure (decide (x5.2.1 = 4))
      else
        M.pure false
    else
      M.pure false
  else
    if decide (32 < (IntKind.i64.wrap a0).tmod 40) then
      M.bind (awakeT n) fun x8 =>
      if x8 then
        if decide (x5.2.2 = 5) then
          M.pure (decide (x5.2.1 = 36))
        else
          M.pure false
      else
        M.pure false
    else
      M.bind (awakeT n) fun x8 =>
      if x8 then
        if decide (x5.2.2 = 0) then
          M.bind (ldL .sl (((adr x6).plus 2).plus 0)) fun (x9 : Sl) =>
          M.pure (decide ((↑x9.len : Int) = IntKind.i64.wrap ((IntKind.i64.wrap a0).tmod 40 + 2)))
        else
          M.pure false
      else
        M.pure false
abbrev q3_E (n : Nat) : Ent := ⟨3, [.one (.int .u8)], [tyB], fun x => rosettalaw25_TomlDeep n x⟩
theorem rosettalaw25_TomlDeep_ok (n : Nat) : FnOK Tryz.prog (q3_E n) := fn_c Tryz.f3 (E0 n) (hT := .m1 (N0 n))
end Go.Sh
