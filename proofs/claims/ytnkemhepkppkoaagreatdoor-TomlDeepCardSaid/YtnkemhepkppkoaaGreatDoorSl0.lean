/-
The shallow functions of this seat, part 0, and that each is sound; written by program. No theorem about what they compute stands here.
-/
import Derived.Test.YtnkemhepkppkoaaGreatDoorDp
set_option maxRecDepth 100000
set_option maxHeartbeats 0
set_option linter.all false
namespace Go.Sh
open Go Go.Ago Go.Proofs
abbrev D0 (n : Nat) : List Ent := [⟨7, [.one (.str)], [.agg [.int .i64, .str, .sl, .int .i64, .sl, .sl], .one (.int .i64), .one (.int .i64)], fun x => toml_Parse n (x)⟩]
theorem L0 (n : Nat) : AllOK Tryz.prog (D0 n) := .cons (toml_Parse_ok n) .nil
def rosettaref13_ints_L0_B (G : Sl → Sl → Int → M ((Unit) ⊕ (Bool))) (n : Nat) (a0 : Sl) (a1 : Sl) (a2 : Int) : M ((Unit) ⊕ (Bool)) :=
  if decide (a2 < (↑a0.len : Int)) then
    M.bind (idxA a0 a2 1) fun x0 =>
    M.bind (idxA a1 a2 1) fun x1 =>
    M.bind (ldL (li) x0) fun (x2 : Int) =>
    M.bind (ldL (li) x1) fun (x3 : Int) =>
    if !decide (x2 = x3) then
      M.pure (Sum.inr false)
    else
      G a0 a1 (IntKind.i64.wrap (a2 + 1))
  else
    M.pure (Sum.inl ())
def rosettaref13_ints_L0 : Nat → Sl → Sl → Int → M ((Unit) ⊕ (Bool))
  | 0 => fun _ _ _ => M.fail
  | n + 1 => rosettaref13_ints_L0_B (rosettaref13_ints_L0 n) n
theorem rosettaref13_ints_L0_succ (n : Nat) : rosettaref13_ints_L0 (n + 1) = rosettaref13_ints_L0_B (rosettaref13_ints_L0 n) n := rfl
def rosettaref13_ints (n : Nat) (a0 : Sl) (a1 : Sl) : M (Bool) :=
  if !decide ((↑a0.len : Int) = (↑a1.len : Int)) then
    M.pure false
  else
    M.bind (rosettaref13_ints_L0 n a0 a1 0) (sumElim (fun x0 =>
      M.pure true)
    (fun x0 =>
      M.pure x0))
abbrev q63_E (n : Nat) : Ent := ⟨63, [tyL, tyL], [tyB], fun x => rosettaref13_ints n (x.1) (x.2)⟩
abbrev q63_L0 : L2 := ⟨[0, 1, 0, 1, 1], [(0, tyL), (1, tyL), (5, tyI)], [], [(4, tyB)], [4, 5] ++ List.range' 11 15, 0, .ret, fun n x => rosettaref13_ints_L0 n (x.1) (x.2.1) (x.2.2)⟩
def q63_dr (i : Nat) : Option (List (Nat × List Nat)) := cond (Nat.beq i 6) (some [(0, []), (1, []), (2, []), (4, []), (5, []), (6, []), (3, []), (7, []), (8, [])]) (none)
theorem q63_L0_ok (n : Nat) : LOK Tryz.prog Tryz.f63 (q63_L0.e n) q63_L0.ws := L2.ok Tryz.f63 q63_L0 n D0 (dr := q63_dr) (hT := fun m _ => .m1 (L0 m))
theorem rosettaref13_ints_ok (n : Nat) : FnOK Tryz.prog (q63_E n) := fn_c Tryz.f63 (D0 n) (ll := [q63_L0.e n]) (dr := q63_dr) (hT := ⟨.nil, L0 n, .nil, (.cc (q63_L0_ok n) .nil), .nil⟩)
abbrev D1 (n : Nat) : List Ent := q63_E n :: D0 n
theorem L1 (n : Nat) : AllOK Tryz.prog (D1 n) := .cons (rosettaref13_ints_ok n) (L0 n)
def rosettaref13_Is_L0_B (G : Addr → Addr → Int → M ((Unit) ⊕ (Bool))) (n : Nat) (a0 : Addr) (a1 : Addr) (a2 : Int) : M ((Unit) ⊕ (Bool)) :=
  M.bind (ldL .sl (a0.plus 0)) fun (x0 : Sl) =>
  if decide (a2 < (↑x0.len : Int)) then
    M.bind (reserve 14) fun x1 =>
    M.bind (ldL .sl (a0.plus 0)) fun (x2 : Sl) =>
    M.bind (idxA x2 a2 5) fun x3 =>
    M.bind (ldLs [li, .str, .bool, .sl, .sl] x3) fun (x4 : Int × ByteArray × Bool × Sl × Sl) =>
    M.bind (ldL .sl (a1.plus 0)) fun (x5 : Sl) =>
    M.bind (idxA x5 a2 5) fun x6 =>
    M.bind (ldLs [li, .str, .bool, .sl, .sl] x6) fun (x7 : Int × ByteArray × Bool × Sl × Sl) =>
    M.bind (newB (some (x1 + 10)) T_api_Node [vi 0, Value.string (ofBytes []), Value.bool false, vsl0, vsl0]) fun x8 =>
    M.bind (newB (some (x1 + 11)) T_api_Node [vi 0, Value.string (ofBytes []), Value.bool false, vsl0, vsl0]) fun x9 =>
    M.bind (chk [some (a1.plus 0), some x6] (stN (adr x8) [vi x4.1, Value.string x4.2.1, Value.bool x4.2.2.1, vsl x4.2.2.2.1, vsl x4.2.2.2.2])) fun x10 =>
    M.bind (stN (adr x9) [vi x7.1, Value.string x7.2.1, Value.bool x7.2.2.1, vsl x7.2.2.2.1, vsl x7.2.2.2.2]) fun x11 =>
    M.bind (ldL (li) ((adr x8).plus 0)) fun (x12 : Int) =>
    M.bind (ldL (li) ((adr x9).plus 0)) fun (x13 : Int) =>
    if !decide (x12 = x13) then
      M.pure (Sum.inr false)
    else
      M.bind (ldL .str ((adr x8).plus 1)) fun (x14 : ByteArray) =>
      M.bind (ldL .str ((adr x9).plus 1)) fun (x15 : ByteArray) =>
      if !eqS x14 x15 then
        M.pure (Sum.inr false)
      else
        M.bind (ldL .bool ((adr x8).plus 2)) fun (x16 : Bool) =>
        M.bind (ldL .bool ((adr x9).plus 2)) fun (x17 : Bool) =>
        if !x16 == x17 then
          M.pure (Sum.inr false)
        else
          M.bind (ldL .sl ((adr x8).plus 3)) fun (x18 : Sl) =>
          M.bind (ldL .sl ((adr x9).plus 3)) fun (x19 : Sl) =>
          M.bind (rosettaref13_ints n x18 x19) fun x20 =>
          if !x20 then
            M.pure (Sum.inr false)
          else
            M.bind (ldL .sl ((adr x8).plus 4)) fun (x21 : Sl) =>
            M.bind (ldL .sl ((adr x9).plus 4)) fun (x22 : Sl) =>
            M.bind (rosettaref13_ints n x21 x22) fun x23 =>
            if !x23 then
              M.pure (Sum.inr false)
            else
              G a0 a1 (IntKind.i64.wrap (a2 + 1))
  else
    M.pure (Sum.inl ())
def rosettaref13_Is_L0 : Nat → Addr → Addr → Int → M ((Unit) ⊕ (Bool))
  | 0 => fun _ _ _ => M.fail
  | n + 1 => rosettaref13_Is_L0_B (rosettaref13_Is_L0 n) n
theorem rosettaref13_Is_L0_succ (n : Nat) : rosettaref13_Is_L0 (n + 1) = rosettaref13_Is_L0_B (rosettaref13_Is_L0 n) n := rfl
def rosettaref13_Is (n : Nat) (a0 : Sl × Int) (a1 : Sl × Int) : M (Bool) :=
  M.bind (newB none T_api_Graph [vsl a0.1, vi a0.2]) fun x0 =>
  M.bind (newB none T_api_Graph [vsl a1.1, vi a1.2]) fun x1 =>
  M.bind (ldL (li) ((adr x0).plus 1)) fun (x2 : Int) =>
  M.bind (ldL (li) ((adr x1).plus 1)) fun (x3 : Int) =>
  if !decide (x2 = x3) then
    M.pure false
  else
    M.bind (ldL .sl ((adr x0).plus 0)) fun (x4 : Sl) =>
    M.bind (ldL .sl ((adr x1).plus 0)) fun (x5 : Sl) =>
    if !decide ((↑x4.len : Int) = (↑x5.len : Int)) then
      M.pure false
    else
      M.bind (rosettaref13_Is_L0 n (adr x0) (adr x1) 0) (sumElim (fun x6 =>
        M.pure true)
      (fun x6 =>
        M.pure x6))
abbrev q30_E (n : Nat) : Ent := ⟨30, [.agg [.sl, .int .i64], .agg [.sl, .int .i64]], [tyB], fun x => rosettaref13_Is n (x.1) (x.2)⟩
abbrev q30_L0 : L2 := ⟨[0, 1, 0, 1, 1], [(2, tyA), (3, tyA), (5, tyI)], [], [(4, tyB)], [4, 5, 6, 7] ++ List.range' 22 52, 0, .ret, fun n x => rosettaref13_Is_L0 n (x.1) (x.2.1) (x.2.2)⟩
def q30_dr (i : Nat) : Option (List (Nat × List Nat)) := cond (Nat.beq i 6) (some [(0, []), (2, []), (5, []), (7, []), (1, []), (3, []), (4, []), (6, []), (8, []), (9, []), (10, []), (11, []), (12, [6, 9]), (13, [])]) (none)
theorem q30_L0_ok (n : Nat) : LOK Tryz.prog Tryz.f30 (q30_L0.e n) q30_L0.ws := L2.ok Tryz.f30 q30_L0 n D1 (dr := q30_dr) (hT := fun m _ => .m1 (L1 m))
theorem rosettaref13_Is_ok (n : Nat) : FnOK Tryz.prog (q30_E n) := fn_c Tryz.f30 (D1 n) (ll := [q30_L0.e n]) (dr := q30_dr) (hT := ⟨.nil, L1 n, .nil, (.cc (q30_L0_ok n) .nil), .nil⟩)
abbrev D2 (n : Nat) : List Ent := q30_E n :: D1 n
theorem L2 (n : Nat) : AllOK Tryz.prog (D2 n) := .cons (rosettaref13_Is_ok n) (L1 n)
def rosettaref18_SameGraph (n : Nat) (a0 : Sl × Int) (a1 : Sl × Int) : M (Bool) :=
  M.bind (newB none T_api_Graph [vsl a0.1, vi a0.2]) fun x0 =>
  M.bind (newB none T_api_Graph [vsl a1.1, vi a1.2]) fun x1 =>
  M.bind (ldLs [.sl, li] (adr x0)) fun (x2 : Sl × Int) =>
  M.bind (ldLs [.sl, li] (adr x1)) fun (x3 : Sl × Int) =>
  M.bind (rosettaref13_Is n (x2.1, x2.2) (x3.1, x3.2)) fun x4 =>
  M.pure x4
abbrev q11_E (n : Nat) : Ent := ⟨11, [.agg [.sl, .int .i64], .agg [.sl, .int .i64]], [tyB], fun x => rosettaref18_SameGraph n (x.1) (x.2)⟩
theorem rosettaref18_SameGraph_ok (n : Nat) : FnOK Tryz.prog (q11_E n) := fn_c Tryz.f11 (D2 n) (hT := .m1 (L2 n))
abbrev D3 (n : Nat) : List Ent := q11_E n :: D2 n
theorem L3 (n : Nat) : AllOK Tryz.prog (D3 n) := .cons (rosettaref18_SameGraph_ok n) (L2 n)
def rosettalaw25_awake (n : Nat) : M (Bool) :=
  M.bind (toml_Parse n (ofBytes [97, 46, 98, 32, 61, 32, 48, 120, 49, 70, 10, 91, 99, 93, 10, 100, 32, 61, 32, 91, 49, 46, 53, 44, 32, 34, 120, 34, 93, 32, 35, 32, 121])) fun x0 =>
  M.bind (newB none T_api_Doc [vi 0, Value.string (ofBytes []), vsl0, vi 0, vsl0, vsl0]) fun x1 =>
  M.bind (stN (adr x1) [vi x0.1.1, Value.string x0.1.2.1, vsl x0.1.2.2.1, vi x0.1.2.2.2.1, vsl x0.1.2.2.2.2.1, vsl x0.1.2.2.2.2.2]) fun x2 =>
  M.bind (toml_Parse n (ofBytes [97, 32, 61, 32, 49, 10, 91, 97, 93])) fun x3 =>
  M.bind (newB none T_api_Doc [vi 0, Value.string (ofBytes []), vsl0, vi 0, vsl0, vsl0]) fun x4 =>
  M.bind (stN (adr x4) [vi x3.1.1, Value.string x3.1.2.1, vsl x3.1.2.2.1, vi x3.1.2.2.2.1, vsl x3.1.2.2.2.2.1, vsl x3.1.2.2.2.2.2]) fun x5 =>
  M.bind (toml_Parse n (ofBytes [97, 32, 61, 32, 105, 110, 102])) fun x6 =>
  M.bind (newB none T_api_Doc [vi 0, Value.string (ofBytes []), vsl0, vi 0, vsl0, vsl0]) fun x7 =>
  M.bind (stN (adr x7) [vi x6.1.1, Value.string x6.1.2.1, vsl x6.1.2.2.1, vi x6.1.2.2.2.1, vsl x6.1.2.2.2.2.1, vsl x6.1.2.2.2.2.2]) fun x8 =>
  M.bind (toml_Parse n (ofBytes [97, 32, 61, 32, 49, 57, 55, 57, 45, 48, 53, 45, 51, 50])) fun x9 =>
  M.bind (newB none T_api_Doc [vi 0, Value.string (ofBytes []), vsl0, vi 0, vsl0, vsl0]) fun x10 =>
  M.bind (stN (adr x10) [vi x9.1.1, Value.string x9.1.2.1, vsl x9.1.2.2.1, vi x9.1.2.2.2.1, vsl x9.1.2.2.2.2.1, vsl x9.1.2.2.2.2.2]) fun x11 =>
  M.bind (newB none T_i64 [vi 1, vi 5]) fun x12 =>
  M.bind (newB none T_i64 [vi 2, vi 6]) fun x13 =>
  M.bind (newB none T_i64 [vi 3]) fun x14 =>
  M.bind (newB none T_i64 [vi 4]) fun x15 =>
  M.bind (newB none T_i64 [vi 7]) fun x16 =>
  M.bind (newB none T_i64 [vi 8]) fun x17 =>
  M.bind (newB none T_i64 [vi 9, vi 10]) fun x18 =>
  M.bind (newB none T_api_Node [vi 10, Value.string (ofBytes []), Value.bool false, Value.slice (some (adr x12)) 2 3, Value.slice (some (adr x13)) 2 3, vi 5, Value.string (ofBytes [97]), Value.bool false, vsl0, vsl0, vi 10, Value.string (ofBytes []), Value.bool false, Value.slice (some (adr x14)) 1 2, Value.slice (some (adr x15)) 1 2, vi 5, Value.string (ofBytes [98]), Value.bool false, vsl0, vsl0, vi 2, Value.string (ofBytes [51, 49]), Value.bool false, vsl0, vsl0, vi 5, Value.string (ofBytes [99]), Value.bool false, vsl0, vsl0, vi 10, Value.string (ofBytes []), Value.bool false, Value.slice (some (adr x16)) 1 2, Value.slice (some (adr x17)) 1 2, vi 5, Value.string (ofBytes [100]), Value.bool false, vsl0, vsl0, vi 9, Value.string (ofBytes []), Value.bool false, vsl0, Value.slice (some (adr x18)) 2 3, vi 3, Value.string (ofBytes [49, 53, 101, 45, 49]), Value.bool false, vsl0, vsl0, vi 5, Value.string (ofBytes [120]), Value.bool false, vsl0, vsl0]) fun x19 =>
  if decide (x0.2.1 = 0) then
    if decide (x0.2.2 = 0) then
      M.bind (ldLs [.sl, li] ((adr x1).plus 2)) fun (x20 : Sl × Int) =>
      M.bind (rosettaref18_SameGraph n (x20.1, x20.2) ({ a := some (adr x19), len := 11, cap := 12 }, 0)) fun x21 =>
      if x21 then
        M.bind (ldL .sl ((adr x1).plus 5)) fun (x22 : Sl) =>
        if decide ((↑x22.len : Int) = 1) then
          if decide (x3.2.1 = 7) then
            if decide (x3.2.2 = 8) then
              if decide (x6.2.1 = 4) then
                if decide (x6.2.2 = 12) then
                  if decide (x9.2.1 = 4) then
                    M.pure (decide (x9.2.2 = 13))
                  else
                    M.pure false
                else
                  M.pure false
              else
                M.pure false
            else
              M.pure false
          else
            M.pure false
        else
          M.pure false
      else
        M.pure false
    else
      M.pure false
  else
    M.pure false
abbrev q9_E (n : Nat) : Ent := ⟨9, [], [tyB], fun _ => rosettalaw25_awake n⟩
theorem rosettalaw25_awake_ok (n : Nat) : FnOK Tryz.prog (q9_E n) := fn_c Tryz.f9 (D3 n) (hT := .m1 (L3 n))
end Go.Sh
